/-
  A tree that is handed in, opened: what its reading says of its cells.
-/
import Derived.Test.YtobbchmjgoaleaaGreatDoorMEtr15
import Derived.Test.YtobbchmjgoaleaaGreatDoorMEtr2
import Derived.ChangeSlices
import Derived.ChangeArms
import Derived.DataReads
namespace Go.Proofs.YtobbchmjgoaleaaGreatDoor
open Go.ChangeShapes Go.WideShapes Go.ChangeAt Go.RowKit

theorem pick2 {α β : Type} {n : Nat} {P : Nat → α → β → Prop} (h : ∀ i, i < n → ∃ a b, P i a b) : ∃ (la : List α) (lb : List β), la.length = n ∧ lb.length = n ∧ ∀ i (h1 : i < la.length) (h2 : i < lb.length), P i la[i] lb[i] := by
  refine ⟨List.ofFn (fun i : Fin n => (h i i.2).choose), List.ofFn fun i : Fin n => (h i i.2).choose_spec.choose, by simp, by simp, fun i h1 h2 => ?_⟩
  simp only [List.getElem_ofFn]
  exact (h i (by simpa using h1)).choose_spec.choose_spec
/-- cells that read one by one -/
theorem RS.ofCells {W : World} {a : Addr} {n cap : Nat} {xs : List Value} (hn : n ≤ cap) (h : ∀ i (hi : i < xs.length), W.cell? (a.add i) = some xs[i]) : RS W (fun k => k < W.heap.size) (.slice (some a) n cap) n xs := by
  refine ⟨some a, cap, rfl, hn, (fun h => by cases h), fun a' ha' => ?_⟩
  cases ha'
  obtain ⟨b, o, sp⟩ := a
  have hs : 0 < xs.length → sp = none := fun h0 => by
    have := World.cell?_spot (h 0 h0)
    simpa [Addr.add] using this
  refine ⟨hs, fun i hi => ?_⟩
  obtain rfl := hs (by omega)
  have := h i hi
  rw [addr_add] at this
  exact ⟨World.block_lt_of_cell? W (⟨b, o + i, none⟩ : Addr) this, this⟩
/-- rows of m cells, one behind another -/
theorem RS.ofRows {W : World} {a : Addr} {n cap m : Nat} {css : List (List Value)} (_hn : css.length = n) (hc : n ≤ cap) (hm : ∀ c ∈ css, c.length = m) (h0 : 0 < m)
    (h : ∀ i (hi : i < css.length) j (hj : j < css[i].length), W.cell? ((a.add (i * m)).add j) = some css[i][j]) : RS W (fun k => k < W.heap.size) (.slice (some a) n cap) n css.flatten := by
  have hl := flatten_len css m hm
  obtain ⟨b, o, sp⟩ := a
  have hs : 0 < css.length → sp = none := fun h1 => by
    have hj : 0 < css[0].length := by rw [hm _ (List.getElem_mem h1)]; exact h0
    have := World.cell?_spot (h 0 h1 0 hj)
    simpa [Addr.add] using this
  refine RS.ofCells hc fun k hk => ?_
  have hk' : k < m * css.length := by rw [← hl]; exact hk
  have hi : k / m < css.length := (Nat.div_lt_iff_lt_mul h0).2 (by rw [Nat.mul_comm]; exact hk')
  have hj : k % m < m := Nat.mod_lt _ h0
  have hpos : 0 < css.length := Nat.lt_of_le_of_lt (Nat.zero_le _) hi
  obtain rfl := hs hpos
  have hci : css[k / m].length = m := hm _ (List.getElem_mem hi)
  have e := flatten_get css m hm (k / m) (k % m) hi hj (by omega)
  rw [Nat.div_add_mod] at e
  have := h (k / m) hi (k % m) (by omega)
  rw [addr_add, addr_add, Nat.add_assoc, Nat.mul_comm (k / m) m, Nat.div_add_mod] at this
  rw [addr_add, this, ← e, List.getElem?_eq_getElem hk]
section
variable {H : Type} {enc : TypeId × Value → H} {W : World} {sp : Nat → Bool} {held : Bool}
theorem cells_u8 : Tryz.prog.cellsOf 5 = 1 := by kernel_rfl
theorem cells_u32 : Tryz.prog.cellsOf 75 = 1 := by kernel_rfl
theorem cells_i64 : Tryz.prog.cellsOf 2 = 1 := by kernel_rfl
theorem cells_bool : Tryz.prog.cellsOf 4 = 1 := by kernel_rfl
theorem cells_sb : Tryz.prog.cellsOf 22 = 1 := by kernel_rfl
theorem cells_st : Tryz.prog.cellsOf 23 = 1 := by kernel_rfl
theorem cells_sg : Tryz.prog.cellsOf 24 = 1 := by kernel_rfl
theorem cells_tree : Tryz.prog.cellsOf 26 = 5 := by kernel_rfl
theorem cells_tag : Tryz.prog.cellsOf 77 = 2 := by kernel_rfl
/-- octets that are handed in -/
theorem octs_open {fuel : Nat} {v : Value} {x : DataW H × List MemPlace} (h : DataW.trod enc Tryz.prog W 0 (fun _ => true) held fuel 22 [v] = some x) :
    ∃ l, RB W (fun k => k < W.heap.size) v l ∧ l.length ≤ maxLen := by
  rcases open_ints Tryz.underlying22 Tryz.underlying5 cells_u8 h with ⟨hcs, hx⟩ | ⟨a, len, cap, zs, hcs, _, hl, hm, hz, hx, hcell, hwz⟩
  · simp only [List.cons.injEq, and_true] at hcs
    subst hcs
    exact ⟨[], RB.nil W _, by simp⟩
  · simp only [List.cons.injEq, and_true] at hcs
    subst hcs
    simp only [if_true] at hz
    have e : ((zs.take len).map fun z => UInt8.ofNat z.toNat).length = len := by simp; omega
    refine ⟨(zs.take len).map fun z => UInt8.ofNat z.toNat, ?_, by omega⟩
    unfold RB
    rw [e]
    refine RS.ofCells hl fun i hi => ?_
    have hi' : i < zs.length := by simp at hi; omega
    rw [hcell i hi']
    have hw : 0 ≤ zs[i] ∧ zs[i] ≤ 255 := by simpa [Lit.wf, IntKind.has, IntKind.min, IntKind.max, IntKind.bits, IntKind.signed] using hwz _ (List.getElem_mem hi')
    simp [bv, List.getD, hi']
    omega
set_option maxRecDepth 100000 in
theorem tag_open {fuel : Nat} {cs : List Value} {x : DataW H × List MemPlace} (h : DataW.trod enc Tryz.prog W 0 (fun _ => true) held fuel 77 cs = some x) :
    ∃ (u : Tg) (v : Value), cs = [.int .u32 (u.1 : Int), v] ∧ RB W (fun k => k < W.heap.size) v u.2 ∧ u.1 < 4294967296 ∧ u.2.length ≤ maxLen := by
  obtain ⟨xs, n, rfl, rfl, hlen, hxl, hf⟩ := DataW.trod_struct Tryz.underlying77 h
  rw [cells_tag] at hlen
  match cs, hlen with
  | [c0, c1], _ =>
    have f0 : DataW.trod enc Tryz.prog W 0 (fun _ => true) held n 75 (([c0, c1].drop 0).take (Tryz.prog.cellsOf 75)) = xs[0]? := hf 0 _ rfl
    have f1 : DataW.trod enc Tryz.prog W 0 (fun _ => true) held n 22 (([c0, c1].drop 1).take (Tryz.prog.cellsOf 22)) = xs[1]? := hf 1 _ rfl
    rw [cells_u32] at f0
    rw [cells_sb] at f1
    simp only [List.drop_zero, List.drop_succ_cons, List.take_succ_cons, List.take_zero] at f0 f1
    have hx2 : xs.length = 2 := hxl
    rw [List.getElem?_eq_getElem (by omega)] at f0 f1
    obtain ⟨k, hk, -, hw⟩ := DataW.trod_int Tryz.underlying75 f0
    obtain ⟨l, hl, hll⟩ := octs_open f1
    have hw' : 0 ≤ k ∧ k ≤ 4294967295 := by simpa [Lit.wf, IntKind.has, IntKind.min, IntKind.max, IntKind.bits, IntKind.signed] using hw
    simp only [List.cons.injEq, and_true] at hk
    subst hk
    exact ⟨(k.toNat, l), c1, by simp; omega, hl, by simp only; omega, hll⟩
theorem elem_of {fuel n : Nat} {t : TypeId} {a : Addr} {m : Nat} {elems : List (DataW H × List MemPlace)} (hlen : elems.length = n) (hel : ∀ i, i < n → (W.cells? 0 (a.add (i * m)) m).bind (DataW.trod enc Tryz.prog W 0 (fun _ => true) held fuel t) = elems[i]?) (i : Nat) (hi : i < n) :
    ∃ cs x, DataW.trod enc Tryz.prog W 0 (fun _ => true) held fuel t cs = some x ∧ cs.length = m ∧ ∀ j (hj : j < cs.length), W.cell? ((a.add (i * m)).add j) = some cs[j] := by
  have h := hel i hi
  rw [List.getElem?_eq_getElem (by omega), Option.bind_eq_some_iff] at h
  obtain ⟨cs, h1, h2⟩ := h
  obtain ⟨_, hl, hc⟩ := World.cells?_some h1
  exact ⟨cs, _, h2, hl, fun j hj => by rw [hc j (by omega), List.getElem?_eq_getElem hj]⟩
/-- tags that are handed in -/
theorem tags_open {fuel : Nat} {v : Value} {x : DataW H × List MemPlace} (h : DataW.trod enc Tryz.prog W 0 (fun _ => true) held fuel 24 [v] = some x) :
    ∃ u, HGs W (fun k => k < W.heap.size) v u := by
  rcases DataW.trod_slice Tryz.underlying24 h with ⟨hcs, hx⟩ | ⟨a, len, cap, elems, rest, n, rfl, hcs, hx, _, hl, hm, hlen, hel, -, -⟩
  · simp only [List.cons.injEq, and_true] at hcs
    subst hcs
    exact ⟨[], HGs.nil W _⟩
  · simp only [List.cons.injEq, and_true] at hcs
    subst hcs
    rw [cells_tag] at hel
    obtain ⟨us, vs, h1, h2, h3⟩ := pick2 (P := fun i (u : Tg) (v : Value) => (∀ j (hj : j < [Value.int .u32 (u.1 : Int), v].length), W.cell? ((a.add (i * 2)).add j) = some [Value.int .u32 (u.1 : Int), v][j]) ∧ RB W (fun k => k < W.heap.size) v u.2 ∧ u.1 < 4294967296 ∧ u.2.length ≤ maxLen) (n := len) fun i hi => by
      obtain ⟨cs, x, ht, hcl, hc⟩ := elem_of hlen hel i hi
      obtain ⟨u, v, rfl, q1, q2, q3⟩ := tag_open ht
      exact ⟨u, v, hc, q1, q2, q3⟩
    refine ⟨us, vs, by omega, fun i a b => (h3 i a b).2.1, fun x hx => ?_, by unfold maxLen at hm; omega, ?_⟩
    · obtain ⟨i, hi, rfl⟩ := List.getElem_of_mem hx
      have := (h3 i hi (by omega)).2.2
      unfold maxLen at this
      exact ⟨this.1, by omega⟩
    · have hz : (us.zip vs).length = len := by simp; omega
      rw [h1]
      refine RS.ofRows (m := 2) (by simpa using hz) hl (fun c hc => ?_) (by decide) fun i hi j hj => ?_
      · obtain ⟨y, _, rfl⟩ := List.mem_map.1 hc
        rfl
      · simp only [List.getElem_map, List.getElem_zip] at hj ⊢
        exact (h3 i (by simp at hi; omega) (by simp at hi; omega)).1 j hj
theorem keysTs_of : ∀ (l : List T), (∀ i (h : i < l.length), keysT l[i]) → keysTs l
  | [], _ => trivial
  | x :: r, h => ⟨h 0 (by simp), keysTs_of r fun i hi => h (i + 1) (by simpa using hi)⟩
set_option maxRecDepth 100000 in
theorem tree_open : ∀ (fuel : Nat) {cs : List Value} {x : DataW H × List MemPlace}, DataW.trod enc Tryz.prog W 0 (fun _ => true) held fuel 26 cs = some x →
    ∃ t, HT W (fun k => k < W.heap.size) t cs ∧ keysT t := by
  intro fuel
  induction fuel using Nat.strongRecOn with
  | _ fuel ih =>
    intro cs x h
    obtain ⟨xs, n, rfl, rfl, hlen, hxl, hf⟩ := DataW.trod_struct Tryz.underlying26 h
    rw [cells_tree] at hlen
    match cs, hlen with
    | [c0, c1, c2, c3, c4], _ =>
      have f0 : DataW.trod enc Tryz.prog W 0 (fun _ => true) held n 2 (([c0, c1, c2, c3, c4].drop 0).take (Tryz.prog.cellsOf 2)) = xs[0]? := hf 0 _ rfl
      have f1 : DataW.trod enc Tryz.prog W 0 (fun _ => true) held n 22 (([c0, c1, c2, c3, c4].drop 1).take (Tryz.prog.cellsOf 22)) = xs[1]? := hf 1 _ rfl
      have f2 : DataW.trod enc Tryz.prog W 0 (fun _ => true) held n 4 (([c0, c1, c2, c3, c4].drop 2).take (Tryz.prog.cellsOf 4)) = xs[2]? := hf 2 _ rfl
      have f3 : DataW.trod enc Tryz.prog W 0 (fun _ => true) held n 23 (([c0, c1, c2, c3, c4].drop 3).take (Tryz.prog.cellsOf 23)) = xs[3]? := hf 3 _ rfl
      have f4 : DataW.trod enc Tryz.prog W 0 (fun _ => true) held n 24 (([c0, c1, c2, c3, c4].drop 4).take (Tryz.prog.cellsOf 24)) = xs[4]? := hf 4 _ rfl
      rw [cells_i64] at f0
      rw [cells_sb] at f1
      rw [cells_bool] at f2
      rw [cells_st] at f3
      rw [cells_sg] at f4
      simp only [List.drop_zero, List.drop_succ_cons, List.take_succ_cons, List.take_zero] at f0 f1 f2 f3 f4
      have hx5 : xs.length = 5 := hxl
      rw [List.getElem?_eq_getElem (by omega)] at f0 f1 f2 f3 f4
      obtain ⟨k, hk, -, hw⟩ := DataW.trod_int Tryz.underlying2 f0
      obtain ⟨s, hs, hsl⟩ := octs_open f1
      obtain ⟨nu, hnu, -⟩ := DataW.trod_bool Tryz.underlying4 f2
      obtain ⟨u, hu⟩ := tags_open f4
      have hw' : -9223372036854775808 ≤ k ∧ k ≤ 9223372036854775807 := by simpa [Lit.wf, IntKind.has, IntKind.min, IntKind.max, IntKind.bits, IntKind.signed] using hw
      simp only [List.cons.injEq, and_true] at hk hnu
      subst hk hnu
      have hku : ∀ x ∈ u, x.1 < 4294967296 := fun x hx => by
        obtain ⟨_, _, _, h3, _⟩ := hu
        exact (h3 x hx).1
      unfold maxLen at hsl
      have hl : ∃ (css : List (List Value)) (l : List T), css.length = l.length ∧ (∀ i (h1 : i < l.length) (h2 : i < css.length), HT W (fun k => k < W.heap.size) l[i] css[i]) ∧ RS W (fun k => k < W.heap.size) c3 css.length css.flatten ∧ l.length ≤ 9223372036854775807 ∧ keysTs l := by
        rcases DataW.trod_slice Tryz.underlying23 f3 with ⟨hcs, hx⟩ | ⟨a, len, cap, elems, rest, m, rfl, hcs, hx, _, hl, hm, hlen, hel, -, -⟩
        · simp only [List.cons.injEq, and_true] at hcs
          subst hcs
          exact ⟨[], [], rfl, (fun i h => by simp at h), RS.nil W _, by simp, trivial⟩
        · simp only [List.cons.injEq, and_true] at hcs
          subst hcs
          rw [cells_tree] at hel
          obtain ⟨css, ts, h1, h2, h3⟩ := pick2 (P := fun i (c : List Value) (t : T) => (∀ j (hj : j < c.length), W.cell? ((a.add (i * 5)).add j) = some c[j]) ∧ c.length = 5 ∧ HT W (fun k => k < W.heap.size) t c ∧ keysT t) (n := len) fun i hi => by
            obtain ⟨cs, x, ht, hcl, hc⟩ := elem_of hlen hel i hi
            obtain ⟨t, q1, q2⟩ := ih m (by omega) ht
            exact ⟨cs, t, hc, hcl, q1, q2⟩
          unfold maxLen at hm
          refine ⟨css, ts, by omega, fun i a b => (h3 i b a).2.2.1, ?_, by omega, keysTs_of ts fun i hi => (h3 i (by omega) hi).2.2.2⟩
          rw [h1]
          refine RS.ofRows (m := 5) h1 hl (fun c hc => ?_) (by decide) fun i hi j hj => (h3 i hi (by omega)).1 j hj
          obtain ⟨i, hi, rfl⟩ := List.getElem_of_mem hc
          exact (h3 i hi (by omega)).2.1
      obtain ⟨css, l, e1, e2, e3, e4, e5⟩ := hl
      exact ⟨.mk k s nu l u, .mk k s nu l u c1 c3 c4 css hs ⟨hw'.1, hw'.2, by omega, e4⟩ e1 e2 e3 hu, hku, e5⟩
end
end Go.Proofs.YtobbchmjgoaleaaGreatDoor
