/-
  LISTS OF TREES AND OF TAGS THAT THE CALL ITSELF HOLDS: what append does to them.
-/
import Derived.Test.YtedconnhligkeaaDoorSameTree
import Derived.Deep.AppendLies
import Derived.Deep.RegionLaw
namespace Go.Proofs.YtedconnhligkeaaDoor
open Go.RowKit

theorem sameOn_of {A : List Nat} {G : Nat → Prop} {w w' : World} (h : Keep A w w') (hG : There G w) (hA : ∀ k, G k → k ∉ A) : SameOn G w w' := fun k hk => h.block k (hG k hk) (hA k hk)

/-- the blocks G, but for the one that v begins in -/
def Off (G : Nat → Prop) (v : Value) (k : Nat) : Prop := G k ∧ some k ≠ v.ownBlock

/-- a list of trees of the call's own -/
def OT (w : World) (B E : Nat) (G : Nat → Prop) (v : Value) (l : List T) : Prop :=
  ∃ cs : List (List Value), cs.length = l.length ∧ (∀ i (h1 : i < l.length) (h2 : i < cs.length), HT w (Off G v) l[i] cs[i]) ∧ l.length ≤ 1099511627776 ∧ w.ownsRow B E 5 v l.length cs.flatten
theorem OT.nil (w : World) (B E : Nat) (G : Nat → Prop) : OT w B E G (.slice none 0 0) [] := ⟨[], rfl, (fun i h => by simp at h), by simp, World.ownsRow_nil _ _ _ _⟩
theorem OT.row {w : World} {B E : Nat} {G : Nat → Prop} {v : Value} {l : List T} (h : OT w B E G v l) : ∃ xs, w.ownsRow B E 5 v l.length xs := let ⟨cs, _, _, _, h4⟩ := h; ⟨cs.flatten, h4⟩
/-- other blocks turn, the list stays -/
theorem OT.keepF {w w' : World} {B E : Nat} {G G' : Nat → Prop} {v : Value} {l : List T} (h : OT w B E G v l) (hs : SameOn G w w') (hg : ∀ k, G k → G' k) (ho : ∀ k, v.ownBlock = some k → w'.heap[k]? = w.heap[k]?) : OT w' B E G' v l := by
  obtain ⟨cs, h1, h2, h3, h4, h5⟩ := h
  refine ⟨cs, h1, fun i a b => (h2 i a b).keepF (fun k hk => hs k hk.1) (fun k hk => ⟨hg k hk.1, hk.2⟩), h3, h4, ?_⟩
  rcases h5 with h5 | ⟨g, cap, cur, e, hb, hg', r⟩
  · exact .inl h5
  · exact .inr ⟨g, cap, cur, e, hb, by rw [ho g (by rw [e]; rfl)]; exact hg', r⟩
/-- a row of the call's own as a slice that reads -/
theorem ownsRow_rs {w : World} {B E size : Nat} {v : Value} {n : Nat} {xs : List Value} (h : w.ownsRow B E size v n xs) : RS w (fun k => B ≤ k ∧ k < w.heap.size) v n xs := by
  obtain ⟨h1, ⟨rfl, h2⟩ | ⟨g, cap, cur, rfl, hb, hg, hn, hm, hz, ht⟩⟩ := h
  · subst h2
    have hx : xs = [] := List.eq_nil_of_length_eq_zero (by simpa using h1)
    exact ⟨none, 0, rfl, by omega, fun _ => ⟨rfl, rfl, hx⟩, (fun a ha => by cases ha)⟩
  · have hlt : g < w.heap.size := (Array.getElem?_eq_some_iff.1 hg).1
    refine ⟨_, cap, rfl, hn, (fun h => by cases h), fun a ha => ?_⟩
    cases ha
    refine ⟨rfl, fun i hi => ⟨⟨hb, hlt⟩, ?_⟩⟩
    have e : xs[i]? = some xs[i] := List.getElem?_eq_getElem hi
    rw [← e, ← ht, List.getElem?_take, if_pos (by omega)]
    simp [World.cell?, hg]
theorem OT.hts {w : World} {B E : Nat} {G G' : Nat → Prop} {v : Value} {l : List T} (h : OT w B E G v l) (hg : ∀ k, G k → G' k) (hB : ∀ k, B ≤ k → k < w.heap.size → G' k) : HTs w G' v l := by
  obtain ⟨cs, h1, h2, h3, h4⟩ := h
  refine ⟨cs, h1, fun i a b => (h2 i a b).keepF (fun _ _ => rfl) (fun k hk => hg k hk.1), h3, ?_⟩
  rw [h1]
  exact (ownsRow_rs h4).mono fun k hk => hB k hk.1 hk.2
/-- one tree more -/
theorem OT.push {w w' : World} {B E : Nat} {G : Nat → Prop} {v : Value} {l : List T} {x : T} {c : List Value} {g cap : Nat} {cs : List (List Value)} (h1 : cs.length = l.length) (h2 : ∀ i (a : i < l.length) (b : i < cs.length), HT w (Off G v) l[i] cs[i])
    (hx : HT w (Off G v) x c) (hGw : There G w) (hl : l.length + 1 ≤ 1099511627776)
    (hrow : w'.ownsRow B E 5 (.slice (some ⟨g, 0, none⟩) (l.length + 1) cap) (l.length + 1) (cs.flatten ++ c)) (hgr : w.grownBy w' v.ownBlock) (hat : v.ownBlock = some g ∨ w.heap.size ≤ g) :
    OT w' B E G (.slice (some ⟨g, 0, none⟩) (l.length + 1) cap) (l ++ [x]) := by
  have hs : SameOn (Off G v) w w' := fun k hk => hgr.block k (hGw k hk.1) hk.2
  have hw : ∀ k, Off G v k → Off G (.slice (some ⟨g, 0, none⟩) (l.length + 1) cap) k := fun k hk => ⟨hk.1, fun e => by
    have e' : k = g := by simpa [Value.ownBlock] using e
    subst e'
    rcases hat with h | h
    · exact hk.2 h.symm
    · have := hGw k hk.1; omega⟩
  refine ⟨cs ++ [c], by simp [h1], fun i a b => ?_, by simpa using hl, ?_⟩
  · rcases Nat.lt_or_ge i l.length with hi | hi
    · rw [List.getElem_append_left hi, List.getElem_append_left (by omega)]
      exact (h2 i hi (by omega)).keepF hs hw
    · have hi' : i = l.length := by simp at a; omega
      subst hi'
      rw [List.getElem_append_right (by omega), List.getElem_append_right (by omega)]
      simp only [h1, Nat.sub_self, List.getElem_singleton]
      exact hx.keepF hs hw
  · simpa using hrow

/-- a list of tags of the call's own -/
def OG (w : World) (B E : Nat) (G : Nat → Prop) (v : Value) (l : List Tg) : Prop :=
  ∃ vs : List Value, vs.length = l.length ∧ (∀ i (h1 : i < l.length) (h2 : i < vs.length), RB w (Off G v) vs[i] l[i].2) ∧ (∀ x ∈ l, x.1 < 4294967296 ∧ x.2.length ≤ 1099511627776) ∧ l.length ≤ 1099511627776 ∧
    w.ownsRow B E 2 v l.length ((l.zip vs).map fun x => [Value.int .u32 (x.1.1 : Int), x.2]).flatten
theorem OG.nil (w : World) (B E : Nat) (G : Nat → Prop) : OG w B E G (.slice none 0 0) [] := ⟨[], rfl, (fun i h => by simp at h), (fun x h => by cases h), by simp, World.ownsRow_nil _ _ _ _⟩
theorem OG.keepF {w w' : World} {B E : Nat} {G G' : Nat → Prop} {v : Value} {l : List Tg} (h : OG w B E G v l) (hs : SameOn G w w') (hg : ∀ k, G k → G' k) (ho : ∀ k, v.ownBlock = some k → w'.heap[k]? = w.heap[k]?) : OG w' B E G' v l := by
  obtain ⟨cs, h1, h2, h3, h6, h4, h5⟩ := h
  refine ⟨cs, h1, fun i a b => (h2 i a b).keepF (fun k hk => hs k hk.1) (fun k hk => ⟨hg k hk.1, hk.2⟩), h3, h6, h4, ?_⟩
  rcases h5 with h5 | ⟨g, cap, cur, e, hb, hg', r⟩
  · exact .inl h5
  · exact .inr ⟨g, cap, cur, e, hb, by rw [ho g (by rw [e]; rfl)]; exact hg', r⟩
theorem OG.hgs {w : World} {B E : Nat} {G G' : Nat → Prop} {v : Value} {l : List Tg} (h : OG w B E G v l) (hg : ∀ k, G k → G' k) (hB : ∀ k, B ≤ k → k < w.heap.size → G' k) : HGs w G' v l := by
  obtain ⟨cs, h1, h2, h3, h6, h4⟩ := h
  exact ⟨cs, h1, fun i a b => (h2 i a b).keepF (fun _ _ => rfl) (fun k hk => hg k hk.1), h3, h6, (ownsRow_rs h4).mono fun k hk => hB k hk.1 hk.2⟩
theorem OG.push {w w' : World} {B E : Nat} {G : Nat → Prop} {v : Value} {l : List Tg} {x : Tg} {vx : Value} {g cap : Nat} {cs : List Value} (h1 : cs.length = l.length) (h2 : ∀ i (a : i < l.length) (b : i < cs.length), RB w (Off G v) cs[i] l[i].2)
    (h3 : ∀ x ∈ l, x.1 < 4294967296 ∧ x.2.length ≤ 1099511627776) (hx : RB w (Off G v) vx x.2) (hx1 : x.1 < 4294967296 ∧ x.2.length ≤ 1099511627776) (hGw : There G w) (hl : l.length + 1 ≤ 1099511627776)
    (hrow : w'.ownsRow B E 2 (.slice (some ⟨g, 0, none⟩) (l.length + 1) cap) (l.length + 1) (((l.zip cs).map fun x => [Value.int .u32 (x.1.1 : Int), x.2]).flatten ++ [.int .u32 (x.1 : Int), vx])) (hgr : w.grownBy w' v.ownBlock) (hat : v.ownBlock = some g ∨ w.heap.size ≤ g) :
    OG w' B E G (.slice (some ⟨g, 0, none⟩) (l.length + 1) cap) (l ++ [x]) := by
  have hs : SameOn (Off G v) w w' := fun k hk => hgr.block k (hGw k hk.1) hk.2
  have hw : ∀ k, Off G v k → Off G (.slice (some ⟨g, 0, none⟩) (l.length + 1) cap) k := fun k hk => ⟨hk.1, fun e => by
    have e' : k = g := by simpa [Value.ownBlock] using e
    subst e'
    rcases hat with h | h
    · exact hk.2 h.symm
    · have := hGw k hk.1; omega⟩
  refine ⟨cs ++ [vx], by simp [h1], fun i a b => ?_, fun y hy => ?_, by simpa using hl, ?_⟩
  · rcases Nat.lt_or_ge i l.length with hi | hi
    · rw [List.getElem_append_left (by omega)]
      have e : (l ++ [x])[i] = l[i] := List.getElem_append_left hi
      rw [e]
      exact (h2 i hi (by omega)).keepF hs hw
    · have hi' : i = l.length := by simp at a; omega
      subst hi'
      rw [List.getElem_append_right (by omega)]
      have e : (l ++ [x])[l.length] = x := by simp
      rw [e]
      simp only [h1, Nat.sub_self, List.getElem_singleton]
      exact hx.keepF hs hw
  · rcases List.mem_append.1 hy with hy | hy
    · exact h3 y hy
    · have := List.mem_singleton.1 hy
      subst this
      exact hx1
  · rw [List.length_append, List.zip_append (by omega)]
    simpa using hrow

/-- a call of a Go function, as a step of a region that draws its order -/
theorem step_call {P : Program} {w : World} {ops : Array Oper} {o : Oper} {a : Act} {Q : Exit → Act → World → Prop} {K : Act → World → Prop} {E : Prop} {R : Ending → World → Prop} (hgd : o.guard = none) (k : Nat) (ps : Array Operand) (ts : Array TypeId)
    (ho : o.op = .call { callee := .value (.func k), args := ps, argTypes := ts }) (args : Array Value) (hargs : ps.map a.eval = args) (fn : Func) (hf : P.funcs[k]? = some fn) (hb : fn.body.isNone = false) (hn : (fn.name == "runtime.NumGoroutine") = false)
    (hcall : Calls P k args w R) (h : ∀ e w', R e w' → ∃ v, e = .returned v ∧ K (a.put o.dst v) w') : if Region.wanted o (yielded ops a.tmps) = true then Oper.wp P o a w K Q else E := by
  have hw : Region.wanted o (yielded ops a.tmps) = true := by simp [Region.wanted, hgd]
  rw [if_pos hw]
  have hrun : (execOp a.eval o).run P w = .ok (.enter k args) w := by
    have e1 : a.eval (.func k) = .func (.func k) #[] #[] := rfl
    have hn' : ¬ fn.name = "runtime.NumGoroutine" := by simpa using hn
    have hb' : ¬ fn.body = none := by intro h; rw [h] at hb; cases hb
    simp [execOp, ho, resolve, Deferred.ofValue, invoke, callFunc, e1, hargs, program, Sem.run, hf, hb', hn', bind, pure, Sem.bind]
  unfold Oper.wp
  rw [hrun]
  simp only [Oper.upon]
  exact Calls.mono hcall fun e w' hR => by
    obtain ⟨v, rfl, hK⟩ := h e w' hR
    exact hK
/-- a store into one of a block's cells -/
theorem heap_set {w : World} {b i : Nat} {c : Array Value} {t : TypeId} {z : Nat × Nat} (h : w.heap[b]? = some (.cells c t z)) (u : Value) : (w.setCell ⟨b, i, none⟩ u).heap[b]? = some (.cells (c.setIfInBounds i u) t z) := by
  simp [World.setCell, Array.getElem?_modify, h]
theorem freeOf {w : World} {b : Nat} {c : Array Value} {t : TypeId} (h : w.heap[b]? = some (.cells c t (0, 0))) (i : Nat) : w.frozen? ⟨b, i, none⟩ = false := by
  simp [World.frozen?, h]
end Go.Proofs.YtedconnhligkeaaDoor
