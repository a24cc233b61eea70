/-
  TELLING A PART: what the call that Tags.Each makes for each tag does to the tree that is being made.
-/
import Derived.Test.YtedconnhligkeaaDoorTgEach
import Derived.Test.YtedconnhligkeaaDoorSorted
import Derived.Test.YtedconnhligkeaaDoorGot
namespace Go.Proofs.YtedconnhligkeaaDoor
open Go.ChangeShapes Go.WideShapes Go.ChangeAt Go.RowKit

theorem info_ig : (Tryd.prog.info? 51).map (fun i => (i.size, i.bytes)) = some (2, 32) := by kernel_rfl
theorem zero_ig : (Tryd.prog.info? 51).bind (fun i => i.zero) = some (.agg #[.int .u32 0, .slice none 0 0]) := by kernel_rfl
/-- the tree that is being made: its tags so far -/
def TSt (W0 : World) (tb : Nat) (n s nul l : Value) (d : List Tg) (J : Nat → Prop) (W : World) : Prop :=
  ∃ u, W.heap[tb]? = some (.cells #[n, s, nul, l, u] 27 (0, 0)) ∧ OG W W0.heap.size 51 (fun k => W0.heap.size ≤ k ∧ k < W.heap.size) u d ∧ (∀ k, J k ↔ (k = tb ∨ u.ownBlock = some k)) ∧
    W0.heap.size ≤ W.heap.size ∧ (∀ k, k < W0.heap.size → k ≠ tb → W.heap[k]? = W0.heap[k]?)
theorem TSt.keep {W0 W W' : World} {tb : Nat} {n s nul l : Value} {d : List Tg} {J : Nat → Prop} (h : TSt W0 tb n s nul l d J W) (hk : Keep [] W W') : TSt W0 tb n s nul l d J W' := by
  obtain ⟨u, h1, h2, h3, h4, h5⟩ := h
  have hs := hk.size
  refine ⟨u, (hk.block _ (Array.getElem?_eq_some_iff.1 h1).1 (by simp)).trans h1, h2.keepF (fun k hk' => hk.block k hk'.2 (by simp)) (fun k hk' => ⟨hk'.1, by omega⟩) (fun k e => ?_), h3, by omega, fun k hk' hne => (hk.block k (by omega) (by simp)).trans (h5 k hk' hne)⟩
  obtain ⟨vs, _, _, _, _, hrow⟩ := h2
  exact hk.block k (hrow.lt k e).2 (by simp)
theorem TSt.start {W0 : World} {tb : Nat} {n s nul l : Value} (h : W0.heap[tb]? = some (.cells #[n, s, nul, l, .slice none 0 0] 27 (0, 0))) : TSt W0 tb n s nul l [] (fun k => k = tb) W0 :=
  ⟨_, h, OG.nil _ _ _ _, by simp [Value.ownBlock], Nat.le_refl _, fun _ _ _ => rfl⟩
/-- one tag more: W2 is W and new blocks, W3 is it with the grown row -/
theorem TSt.push {W0 W W2 W3 : World} {tb g cap : Nat} {n s nul l u vx : Value} {d : List Tg} {J : Nat → Prop} {x : Tg} {cs : List Value}
    (htb : tb < W0.heap.size) (hW : W0.heap.size ≤ W.heap.size) (h5 : ∀ k, k < W0.heap.size → k ≠ tb → W.heap[k]? = W0.heap[k]?) (h1 : W.heap[tb]? = some (.cells #[n, s, nul, l, u] 27 (0, 0))) (hJ : ∀ k, J k ↔ (k = tb ∨ u.ownBlock = some k)) (hu : ∀ k, u.ownBlock = some k → W0.heap.size ≤ k ∧ k < W.heap.size)
    (k2 : Keep [] W W2) (e1 : cs.length = d.length) (e2 : ∀ i (a : i < d.length) (b : i < cs.length), RB W2 (Off (fun k => W0.heap.size ≤ k ∧ k < W2.heap.size) u) cs[i] d[i].2) (e3 : ∀ y ∈ d, y.1 < 4294967296 ∧ y.2.length ≤ 1099511627776)
    (hx : RB W2 (fun k => W.heap.size ≤ k ∧ k < W2.heap.size) vx x.2) (hx1 : x.1 < 4294967296 ∧ x.2.length ≤ 1099511627776) (hl : d.length + 1 ≤ 1099511627776)
    (hown : W3.ownsRow W0.heap.size 51 2 (.slice (some ⟨g, 0, none⟩) (d.length + 1) cap) (d.length + 1) (((d.zip cs).map fun x => [Value.int .u32 (x.1.1 : Int), x.2]).flatten ++ [.int .u32 (x.1 : Int), vx])) (hgr : W2.grownBy W3 u.ownBlock) (hat : u.ownBlock = some g ∨ g = W2.heap.size) :
    ∃ J', TSt W0 tb n s nul l (d ++ [x]) J' (W3.setCell ⟨tb, 4, none⟩ (.slice (some ⟨g, 0, none⟩) (d.length + 1) cap)) ∧ (∀ j, J' j → J j ∨ W.heap.size ≤ j) ∧ Chg J W (W3.setCell ⟨tb, 4, none⟩ (.slice (some ⟨g, 0, none⟩) (d.length + 1) cap)) := by
  have hz2 := k2.size
  have hz3 := hgr.size
  have P := OG.push (w := W2) (w' := W3) (B := W0.heap.size) (E := 51) (G := fun k => W0.heap.size ≤ k ∧ k < W2.heap.size) (v := u) (x := x) (vx := vx) (g := g) (cap := cap) e1 e2 e3
    (hx.keepF (fun _ _ => rfl) (fun k hk => ⟨⟨by omega, hk.2⟩, fun e => by have := hu k e.symm; omega⟩)) hx1 (fun k hk => hk.2) hl hown hgr (hat.imp id (fun h => by omega))
  have hb2 := (k2.block tb (by omega) (by simp)).trans h1
  have hb3 := (hgr.block tb (by omega) (fun e => by have := hu tb e.symm; omega)).trans hb2
  have hb4 := heap_set (i := 4) hb3 (.slice (some ⟨g, 0, none⟩) (d.length + 1) cap)
  have hz4 : (W3.setCell ⟨tb, 4, none⟩ (.slice (some ⟨g, 0, none⟩) (d.length + 1) cap)).heap.size = W3.heap.size := by simp [World.setCell]
  have hs : ∀ k, k ≠ tb → (W3.setCell ⟨tb, 4, none⟩ (.slice (some ⟨g, 0, none⟩) (d.length + 1) cap)).heap[k]? = W3.heap[k]? := fun k hk => Below.heap_setCell _ _ _ _ (fun e => hk (by simpa using e))
  have hgl := (hown.lt g rfl)
  refine ⟨fun k => k = tb ∨ k = g, ⟨_, hb4, P.keepF (fun k hk => hs k (by have := hk.1; omega)) (fun k hk => ⟨hk.1, by omega⟩) (fun k e => hs k (by have := (hown.lt k e).1; omega)), fun k => by simp [Value.ownBlock, eq_comm], by omega, fun k hk hne => ?_⟩, fun j hj => ?_, ?_⟩
  · rw [hs k hne, hgr.block k (by omega) (fun e => by have := hu k e.symm; omega), k2.block k (by omega) (by simp)]
    exact h5 k hk hne
  · rcases hj with rfl | rfl
    · exact .inl ((hJ _).2 (.inl rfl))
    · rcases hat with h | h
      · exact .inl ((hJ _).2 (.inr h))
      · exact .inr (by omega)
  · refine ⟨hgr.os.trans k2.os, hgr.tape.trans k2.tape, hgr.output.trans k2.output, by omega, fun k hk hn => ?_⟩
    rw [hs k (fun e => hn ((hJ k).2 (.inl e))), hgr.block k (by omega) (fun e => hn ((hJ k).2 (.inr e.symm))), k2.block k hk (by simp)]
theorem Chg.keep1 {J : Nat → Prop} {w w' : World} {A : List Nat} (h : Chg J w w') (hA : ∀ k, J k → k ∈ A) : Keep A w w' := ⟨h.os, h.tape, h.output, h.size, fun k hk hn => h.block k hk (fun e => hn (hA k e))⟩
theorem MP.rising {w : World} {G : Nat → Prop} {v : Value} {l : List Tg} (h : MP w G v l) : Rising l ∧ ∀ x ∈ l, x.1 < 4294967296 := by
  obtain ⟨n, m, _, ⟨h1, h2, _⟩, _, rfl, _⟩ := h
  refine ⟨?_, fun x hx => ?_⟩
  · unfold Rising at *
    rw [List.pairwise_map] at h1 ⊢
    exact h1
  · obtain ⟨y, hy, rfl⟩ := List.mem_map.1 hx
    exact h2 _ (List.mem_map.2 ⟨y, hy, rfl⟩)
set_option maxRecDepth 100000 in
theorem tell_each {Wn : World} {tb b i fn : Nat} {n s nul l tv : Value} {c : Array Value} {t : TypeId} {G : Nat → Prop} {tags : List Tg} (h2 : Wn.heap[tb]? = some (.cells #[n, s, nul, l, .slice none 0 0] 27 (0, 0))) (hb : Wn.heap[b]? = some (.cells c t (0, 0))) (hc : c[i]? = some tv)
    (hmp : MP Wn G tv tags) (hG : There G Wn) (hbt : b ≠ tb) (hGt : ¬ G tb) (ht1 : ∀ x ∈ tags, x.2.length ≤ 1000000) (ht2 : tags.length ≤ 1000000) (eg : ∀ args w, (callFunc fn args).run Tryd.prog w = .ok (.enter fn args) w)
    (TAG : ∀ {W : World} {d : List Tg} {J : Nat → Prop} {key : Nat} {x : Value} {val : Bs}, TSt Wn tb n s nul l d J W → RB W G x val → key < 4294967296 → val.length ≤ 1000000 → d.length ≤ 1000000000000 → Calls Tryd.prog fn #[.int .u32 (key : Int), x, .pointer (some ⟨tb, 0, none⟩)] W fun e W' => e = .returned (.tuple #[]) ∧ ∃ J', TSt Wn tb n s nul l (d ++ [(key, val)]) J' W' ∧ (∀ j, J' j → J j ∨ W.heap.size ≤ j) ∧ Chg J W W') :
    Calls Tryd.prog 29 #[.pointer (some ⟨b, i, none⟩), .func (.func fn) #[] #[.pointer (some ⟨tb, 0, none⟩)]] Wn fun e W' => e = .returned (.tuple #[]) ∧ ∃ u, W'.heap[tb]? = some (.cells #[n, s, nul, l, u] 27 (0, 0)) ∧ OG W' Wn.heap.size 51 (fun k => Wn.heap.size ≤ k ∧ k < W'.heap.size) u tags ∧ Keep [tb] Wn W' := by
  obtain ⟨nn, m, hnn, hmo, hblk, rfl, hrb⟩ := hmp
  have htl : tb < Wn.heap.size := (Array.getElem?_eq_some_iff.1 h2).1
  have E := each_any hb hc hmo (by omega) eg (I := fun j J W => TSt Wn tb n s nul l ((m.take j).map fun x => (x.1, x.2.2)) J W) (J0 := fun k => k = tb) (p := .pointer (some ⟨tb, 0, none⟩)) (by simpa using TSt.start h2) hbt (fun k hk e => hGt (e ▸ hblk k hk)) (fun k hk => by rw [hk]; exact htl)
    (fun _ _ _ _ h k => h.keep k) (fun j hj J W h hz => by
      have hj' : j < m.length := by simpa using hj
      have hmem : m[j] ∈ m := List.getElem_mem hj'
      have h' := h
      obtain ⟨_, _, _, _, _, h5⟩ := h'
      have hR : RB W G m[j].2.1 m[j].2.2 := (hrb _ hmem).keepF (fun k hk => h5 k (hG k hk) (fun e => hGt (e ▸ hk))) (fun _ h => h)
      have T := TAG h hR (hmo.2.1 _ (List.mem_map.2 ⟨_, hmem, rfl⟩)) (ht1 _ (List.mem_map.2 ⟨_, hmem, rfl⟩)) (by simp at ht2 ⊢; omega)
      have e : ((m.take j).map fun x => (x.1, x.2.2)) ++ [(m[j].1, m[j].2.2)] = (m.take (j + 1)).map fun x => (x.1, x.2.2) := by
        rw [List.take_succ_eq_append_getElem hj', List.map_append]
        rfl
      rw [e] at T
      simp only [List.getElem_map]
      exact T)
  refine E.mono ?_
  rintro e W' ⟨he, J', ⟨u, q1, q2, -, -, -⟩, -, hch⟩
  rw [List.length_map, List.take_length] at q2
  exact ⟨he, u, q1, q2, hch.keep1 (by simp)⟩
end Go.Proofs.YtedconnhligkeaaDoor
