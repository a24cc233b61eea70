/-
  A tree that is handed in, opened: what its reading says of its cells.
-/
import Derived.Test.YtobbchmjgoaleaaGreatDoorMB14
import Derived.Test.YtobbchmjgoaleaaGreatDoorMB2
import Derived.Test.YtobbchmjgoaleaaGreatDoorMB4
import Derived.ChangeSlices
import Derived.ChangeArms
import Derived.DataReads
import Derived.Test.YtobbchmjgoaleaaGreatDoorProg
import Derived.Shelf.GgSortFunc.Whole
namespace Go.Proofs.YtobbchmjgoaleaaGreatDoor
open Go.ChangeShapes Go.WideShapes Go.ChangeAt Go.RowKit

theorem pick2 {α β : Type} {n : Nat} {P : Nat → α → β → Prop} (h : ∀ i, i < n → ∃ a b, P i a b) : ∃ (la : List α) (lb : List β), la.length = n ∧ lb.length = n ∧ ∀ i (h1 : i < la.length) (h2 : i < lb.length), P i la[i] lb[i] := by
  refine ⟨List.ofFn (fun i : Fin n => (h i i.2).choose), List.ofFn fun i : Fin n => (h i i.2).choose_spec.choose, by simp, by simp, fun i h1 h2 => ?_⟩
  simp only [List.getElem_ofFn]
  exact (h i (by simpa using h1)).choose_spec.choose_spec
/-- cells that read one by one -/
theorem RS.ofCells {W : World} {a : Addr} {n cap : Nat} {xs : List Value} (hn : n ≤ cap) (h : ∀ i (hi : i < xs.length), W.cell? (a.add i) = some xs[i]) : RS W (fun k => k < W.heap.size) (.slice (some a) n cap) n xs := by
  refine ⟨some a, cap, rfl, hn, (fun h => by cases h), fun a' ha' => ?_⟩
  cases ha'
  obtain ⟨b, o, sp⟩ := a
  have hs : 0 < xs.length → sp = none := fun h0 => by
    have := World.cell?_spot (h 0 h0)
    simpa [Addr.add] using this
  refine ⟨hs, fun i hi => ?_⟩
  obtain rfl := hs (by omega)
  have := h i hi
  rw [addr_add] at this
  exact ⟨World.block_lt_of_cell? W (⟨b, o + i, none⟩ : Addr) this, this⟩
/-- rows of m cells, one behind another -/
theorem RS.ofRows {W : World} {a : Addr} {n cap m : Nat} {css : List (List Value)} (_hn : css.length = n) (hc : n ≤ cap) (hm : ∀ c ∈ css, c.length = m) (h0 : 0 < m)
    (h : ∀ i (hi : i < css.length) j (hj : j < css[i].length), W.cell? ((a.add (i * m)).add j) = some css[i][j]) : RS W (fun k => k < W.heap.size) (.slice (some a) n cap) n css.flatten := by
  have hl := flatten_len css m hm
  obtain ⟨b, o, sp⟩ := a
  have hs : 0 < css.length → sp = none := fun h1 => by
    have hj : 0 < css[0].length := by rw [hm _ (List.getElem_mem h1)]; exact h0
    have := World.cell?_spot (h 0 h1 0 hj)
    simpa [Addr.add] using this
  refine RS.ofCells hc fun k hk => ?_
  have hk' : k < m * css.length := by rw [← hl]; exact hk
  have hi : k / m < css.length := (Nat.div_lt_iff_lt_mul h0).2 (by rw [Nat.mul_comm]; exact hk')
  have hj : k % m < m := Nat.mod_lt _ h0
  have hpos : 0 < css.length := Nat.lt_of_le_of_lt (Nat.zero_le _) hi
  obtain rfl := hs hpos
  have hci : css[k / m].length = m := hm _ (List.getElem_mem hi)
  have e := flatten_get css m hm (k / m) (k % m) hi hj (by omega)
  rw [Nat.div_add_mod] at e
  have := h (k / m) hi (k % m) (by omega)
  rw [addr_add, addr_add, Nat.add_assoc, Nat.mul_comm (k / m) m, Nat.div_add_mod] at this
  rw [addr_add, this, ← e, List.getElem?_eq_getElem hk]
section
variable {H : Type} {enc : TypeId × Value → H} {W : World} {sp : Nat → Bool} {held : Bool}
theorem cells_u8 : Tryz.prog.cellsOf 5 = 1 := by kernel_rfl
theorem cells_u32 : Tryz.prog.cellsOf 75 = 1 := by kernel_rfl
theorem cells_i64 : Tryz.prog.cellsOf 2 = 1 := by kernel_rfl
theorem cells_bool : Tryz.prog.cellsOf 4 = 1 := by kernel_rfl
theorem cells_sb : Tryz.prog.cellsOf 22 = 1 := by kernel_rfl
theorem cells_st : Tryz.prog.cellsOf 23 = 1 := by kernel_rfl
theorem cells_sg : Tryz.prog.cellsOf 24 = 1 := by kernel_rfl
theorem cells_tree : Tryz.prog.cellsOf 26 = 5 := by kernel_rfl
theorem cells_tag : Tryz.prog.cellsOf 77 = 2 := by kernel_rfl
/-- octets that are handed in -/
theorem octs_open {fuel : Nat} {v : Value} {x : DataW H × List MemPlace} (h : DataW.trod enc Tryz.prog W 0 (fun _ => true) held fuel 22 [v] = some x) :
    ∃ l, RB W (fun k => k < W.heap.size) v l ∧ l.length ≤ maxLen := by
  rcases open_ints Tryz.underlying22 Tryz.underlying5 cells_u8 h with ⟨hcs, hx⟩ | ⟨a, len, cap, zs, hcs, _, hl, hm, hz, hx, hcell, hwz⟩
  · simp only [List.cons.injEq, and_true] at hcs
    subst hcs
    exact ⟨[], RB.nil W _, by simp⟩
  · simp only [List.cons.injEq, and_true] at hcs
    subst hcs
    simp only [if_true] at hz
    have e : ((zs.take len).map fun z => UInt8.ofNat z.toNat).length = len := by simp; omega
    refine ⟨(zs.take len).map fun z => UInt8.ofNat z.toNat, ?_, by omega⟩
    unfold RB
    rw [e]
    refine RS.ofCells hl fun i hi => ?_
    have hi' : i < zs.length := by simp at hi; omega
    rw [hcell i hi']
    have hw : 0 ≤ zs[i] ∧ zs[i] ≤ 255 := by simpa [Lit.wf, IntKind.has, IntKind.min, IntKind.max, IntKind.bits, IntKind.signed] using hwz _ (List.getElem_mem hi')
    simp [bv, List.getD, hi']
    omega
set_option maxRecDepth 100000 in
theorem tag_open {fuel : Nat} {cs : List Value} {x : DataW H × List MemPlace} (h : DataW.trod enc Tryz.prog W 0 (fun _ => true) held fuel 77 cs = some x) :
    ∃ (u : Tg) (v : Value), cs = [.int .u32 (u.1 : Int), v] ∧ RB W (fun k => k < W.heap.size) v u.2 ∧ u.1 < 4294967296 ∧ u.2.length ≤ maxLen := by
  obtain ⟨xs, n, rfl, rfl, hlen, hxl, hf⟩ := DataW.trod_struct Tryz.underlying77 h
  rw [cells_tag] at hlen
  match cs, hlen with
  | [c0, c1], _ =>
    have f0 : DataW.trod enc Tryz.prog W 0 (fun _ => true) held n 75 (([c0, c1].drop 0).take (Tryz.prog.cellsOf 75)) = xs[0]? := hf 0 _ rfl
    have f1 : DataW.trod enc Tryz.prog W 0 (fun _ => true) held n 22 (([c0, c1].drop 1).take (Tryz.prog.cellsOf 22)) = xs[1]? := hf 1 _ rfl
    rw [cells_u32] at f0
    rw [cells_sb] at f1
    simp only [List.drop_zero, List.drop_succ_cons, List.take_succ_cons, List.take_zero] at f0 f1
    have hx2 : xs.length = 2 := hxl
    rw [List.getElem?_eq_getElem (by omega)] at f0 f1
    obtain ⟨k, hk, -, hw⟩ := DataW.trod_int Tryz.underlying75 f0
    obtain ⟨l, hl, hll⟩ := octs_open f1
    have hw' : 0 ≤ k ∧ k ≤ 4294967295 := by simpa [Lit.wf, IntKind.has, IntKind.min, IntKind.max, IntKind.bits, IntKind.signed] using hw
    simp only [List.cons.injEq, and_true] at hk
    subst hk
    exact ⟨(k.toNat, l), c1, by simp; omega, hl, by simp only; omega, hll⟩
theorem elem_of {fuel n : Nat} {t : TypeId} {a : Addr} {m : Nat} {elems : List (DataW H × List MemPlace)} (hlen : elems.length = n) (hel : ∀ i, i < n → (W.cells? 0 (a.add (i * m)) m).bind (DataW.trod enc Tryz.prog W 0 (fun _ => true) held fuel t) = elems[i]?) (i : Nat) (hi : i < n) :
    ∃ cs x, DataW.trod enc Tryz.prog W 0 (fun _ => true) held fuel t cs = some x ∧ cs.length = m ∧ ∀ j (hj : j < cs.length), W.cell? ((a.add (i * m)).add j) = some cs[j] := by
  have h := hel i hi
  rw [List.getElem?_eq_getElem (by omega), Option.bind_eq_some_iff] at h
  obtain ⟨cs, h1, h2⟩ := h
  obtain ⟨_, hl, hc⟩ := World.cells?_some h1
  exact ⟨cs, _, h2, hl, fun j hj => by rw [hc j (by omega), List.getElem?_eq_getElem hj]⟩
/-- tags that are handed in -/
theorem tags_open {fuel : Nat} {v : Value} {x : DataW H × List MemPlace} (h : DataW.trod enc Tryz.prog W 0 (fun _ => true) held fuel 24 [v] = some x) :
    ∃ u, HGs W (fun k => k < W.heap.size) v u := by
  rcases DataW.trod_slice Tryz.underlying24 h with ⟨hcs, hx⟩ | ⟨a, len, cap, elems, rest, n, rfl, hcs, hx, _, hl, hm, hlen, hel, -, -⟩
  · simp only [List.cons.injEq, and_true] at hcs
    subst hcs
    exact ⟨[], HGs.nil W _⟩
  · simp only [List.cons.injEq, and_true] at hcs
    subst hcs
    rw [cells_tag] at hel
    obtain ⟨us, vs, h1, h2, h3⟩ := pick2 (P := fun i (u : Tg) (v : Value) => (∀ j (hj : j < [Value.int .u32 (u.1 : Int), v].length), W.cell? ((a.add (i * 2)).add j) = some [Value.int .u32 (u.1 : Int), v][j]) ∧ RB W (fun k => k < W.heap.size) v u.2 ∧ u.1 < 4294967296 ∧ u.2.length ≤ maxLen) (n := len) fun i hi => by
      obtain ⟨cs, x, ht, hcl, hc⟩ := elem_of hlen hel i hi
      obtain ⟨u, v, rfl, q1, q2, q3⟩ := tag_open ht
      exact ⟨u, v, hc, q1, q2, q3⟩
    refine ⟨us, vs, by omega, fun i a b => (h3 i a b).2.1, fun x hx => ?_, by unfold maxLen at hm; omega, ?_⟩
    · obtain ⟨i, hi, rfl⟩ := List.getElem_of_mem hx
      have := (h3 i hi (by omega)).2.2
      unfold maxLen at this
      exact ⟨this.1, by omega⟩
    · have hz : (us.zip vs).length = len := by simp; omega
      rw [h1]
      refine RS.ofRows (m := 2) (by simpa using hz) hl (fun c hc => ?_) (by decide) fun i hi j hj => ?_
      · obtain ⟨y, _, rfl⟩ := List.mem_map.1 hc
        rfl
      · simp only [List.getElem_map, List.getElem_zip] at hj ⊢
        exact (h3 i (by simp at hi; omega) (by simp at hi; omega)).1 j hj
theorem keysTs_of : ∀ (l : List T), (∀ i (h : i < l.length), keysT l[i]) → keysTs l
  | [], _ => trivial
  | x :: r, h => ⟨h 0 (by simp), keysTs_of r fun i hi => h (i + 1) (by simpa using hi)⟩
set_option maxRecDepth 100000 in
theorem tree_open : ∀ (fuel : Nat) {cs : List Value} {x : DataW H × List MemPlace}, DataW.trod enc Tryz.prog W 0 (fun _ => true) held fuel 26 cs = some x →
    ∃ t, HT W (fun k => k < W.heap.size) t cs ∧ keysT t := by
  intro fuel
  induction fuel using Nat.strongRecOn with
  | _ fuel ih =>
    intro cs x h
    obtain ⟨xs, n, rfl, rfl, hlen, hxl, hf⟩ := DataW.trod_struct Tryz.underlying26 h
    rw [cells_tree] at hlen
    match cs, hlen with
    | [c0, c1, c2, c3, c4], _ =>
      have f0 : DataW.trod enc Tryz.prog W 0 (fun _ => true) held n 2 (([c0, c1, c2, c3, c4].drop 0).take (Tryz.prog.cellsOf 2)) = xs[0]? := hf 0 _ rfl
      have f1 : DataW.trod enc Tryz.prog W 0 (fun _ => true) held n 22 (([c0, c1, c2, c3, c4].drop 1).take (Tryz.prog.cellsOf 22)) = xs[1]? := hf 1 _ rfl
      have f2 : DataW.trod enc Tryz.prog W 0 (fun _ => true) held n 4 (([c0, c1, c2, c3, c4].drop 2).take (Tryz.prog.cellsOf 4)) = xs[2]? := hf 2 _ rfl
      have f3 : DataW.trod enc Tryz.prog W 0 (fun _ => true) held n 23 (([c0, c1, c2, c3, c4].drop 3).take (Tryz.prog.cellsOf 23)) = xs[3]? := hf 3 _ rfl
      have f4 : DataW.trod enc Tryz.prog W 0 (fun _ => true) held n 24 (([c0, c1, c2, c3, c4].drop 4).take (Tryz.prog.cellsOf 24)) = xs[4]? := hf 4 _ rfl
      rw [cells_i64] at f0
      rw [cells_sb] at f1
      rw [cells_bool] at f2
      rw [cells_st] at f3
      rw [cells_sg] at f4
      simp only [List.drop_zero, List.drop_succ_cons, List.take_succ_cons, List.take_zero] at f0 f1 f2 f3 f4
      have hx5 : xs.length = 5 := hxl
      rw [List.getElem?_eq_getElem (by omega)] at f0 f1 f2 f3 f4
      obtain ⟨k, hk, -, hw⟩ := DataW.trod_int Tryz.underlying2 f0
      obtain ⟨s, hs, hsl⟩ := octs_open f1
      obtain ⟨nu, hnu, -⟩ := DataW.trod_bool Tryz.underlying4 f2
      obtain ⟨u, hu⟩ := tags_open f4
      have hw' : -9223372036854775808 ≤ k ∧ k ≤ 9223372036854775807 := by simpa [Lit.wf, IntKind.has, IntKind.min, IntKind.max, IntKind.bits, IntKind.signed] using hw
      simp only [List.cons.injEq, and_true] at hk hnu
      subst hk hnu
      have hku : ∀ x ∈ u, x.1 < 4294967296 := fun x hx => by
        obtain ⟨_, _, _, h3, _⟩ := hu
        exact (h3 x hx).1
      unfold maxLen at hsl
      have hl : ∃ (css : List (List Value)) (l : List T), css.length = l.length ∧ (∀ i (h1 : i < l.length) (h2 : i < css.length), HT W (fun k => k < W.heap.size) l[i] css[i]) ∧ RS W (fun k => k < W.heap.size) c3 css.length css.flatten ∧ l.length ≤ 9223372036854775807 ∧ keysTs l := by
        rcases DataW.trod_slice Tryz.underlying23 f3 with ⟨hcs, hx⟩ | ⟨a, len, cap, elems, rest, m, rfl, hcs, hx, _, hl, hm, hlen, hel, -, -⟩
        · simp only [List.cons.injEq, and_true] at hcs
          subst hcs
          exact ⟨[], [], rfl, (fun i h => by simp at h), RS.nil W _, by simp, trivial⟩
        · simp only [List.cons.injEq, and_true] at hcs
          subst hcs
          rw [cells_tree] at hel
          obtain ⟨css, ts, h1, h2, h3⟩ := pick2 (P := fun i (c : List Value) (t : T) => (∀ j (hj : j < c.length), W.cell? ((a.add (i * 5)).add j) = some c[j]) ∧ c.length = 5 ∧ HT W (fun k => k < W.heap.size) t c ∧ keysT t) (n := len) fun i hi => by
            obtain ⟨cs, x, ht, hcl, hc⟩ := elem_of hlen hel i hi
            obtain ⟨t, q1, q2⟩ := ih m (by omega) ht
            exact ⟨cs, t, hc, hcl, q1, q2⟩
          unfold maxLen at hm
          refine ⟨css, ts, by omega, fun i a b => (h3 i b a).2.2.1, ?_, by omega, keysTs_of ts fun i hi => (h3 i (by omega) hi).2.2.2⟩
          rw [h1]
          refine RS.ofRows (m := 5) h1 hl (fun c hc => ?_) (by decide) fun i hi j hj => (h3 i hi (by omega)).1 j hj
          obtain ⟨i, hi, rfl⟩ := List.getElem_of_mem hc
          exact (h3 i hi (by omega)).2.1
      obtain ⟨css, l, e1, e2, e3, e4, e5⟩ := hl
      exact ⟨.mk k s nu l u, .mk k s nu l u c1 c3 c4 css hs ⟨hw'.1, hw'.2, by omega, e4⟩ e1 e2 e3 hu, hku, e5⟩
end
end Go.Proofs.YtobbchmjgoaleaaGreatDoor
/-
  spec.part where the version is flexible, of fields without tags.
-/
namespace Go.Proofs.YtobbchmjgoaleaaGreatDoor
open Go.ChangeShapes Go.WideShapes Go.ChangeAt Go.RowKit

theorem noTags_un : ∀ {fs : List F}, noTags fs = true → untagged fs = true
  | [], _ => rfl
  | f :: r, h => by
    simp only [noTags, Bool.and_eq_true] at h
    simp only [untagged, Bool.and_eq_true]
    exact ⟨h.1, noTags_un h.2⟩
set_option maxHeartbeats 1000000 in
set_option maxRecDepth 100000 in
theorem part_flex {fs : List F} {v : Int} (hno : noTags fs = true) (hfs : ∀ f ∈ fs, FieldSaid f v true) : PartSaid fs v true := by
  intro G vs t c w hF ht hG hb
  have HB : Hid _ := hb
  have hFb := hF.bd
  obtain ⟨aF, pF, rfl, hpF⟩ := hF.shape
  obtain ⟨az, ps, al, pl, au, pu, rfl, hs, hl, hu, hn1, hn2, hn3, hn4⟩ := ht.cells
  have AT := fun W (hW : Keep [] w W) i => at_any (ht.keepF (hG.same hW) (fun _ h => h)) (hG.keep hW) i
  have KN := fun W (hW : Keep [] w W) => known_any (hF.keepF (hG.same hW) (fun _ h => h)) (hG.keep hW) hno
  have UN := fun W (hW : Keep [] w W) => unknown_any (hF.keepF (hG.same hW) (fun _ h => h)) (hu.keepF (hG.same hW) (fun _ h => h)) (hG.keep hW) hno
  have hkeys : ∀ x ∈ t.u, x.1 < 4294967296 := by obtain ⟨_, _, _, h3, _⟩ := hu; exact fun x hx => (h3 x hx).1
  have HPL : Hid (plainTo fs v true t fs.length ++ (uvarP (tdU fs t.u).length ++ ((tdU fs t.u).map tagP).flatten) = partP fs v true t) := Lib.hid (by rw [partP_untagged (noTags_un hno), plainTo_all, plainAt_eq fs 0 v true t (noTags_un hno)]; rfl)
  have HTU : Hid (tdU fs t.u = (unknownFrom 0 t.u).map fun x => (x.1, whole x.2)) := Lib.hid (by unfold tdU unknownP; rw [show knownP fs = 0 from known0 fs 0 (noTags_un hno)])
  clear hb hs hl hu
  go_enter Tryz.func58, Tryz.ntmps58
  go_wp2_with fail
  go_loopw [9, 23] (fun o k wr => ∃ n : Nat, n ≤ fs.length ∧ k = .int .i64 n ∧ OB wr (w.heap.size + 1) o (plainTo fs v true t n) ∧ Keep [] (w.alloc (.cells (tcells t az ps al pl au pu) 26)) wr) (fun _ k _ => fs.length - (intOf k).toNat)
  case atStart => exact ⟨0, Nat.zero_le _, rfl, by simpa [plainTo] using OB.nil _ _, Keep.refl _ _⟩
  case round =>
    obtain ⟨n, hn, rfl, hown, hkeep⟩ := hrel
    have hk := (keep_box _).trans hkeep
    have hbox : wr.heap[w.heap.size]? = some (.cells (tcells t az ps al pl au pu) 26) := by
      rw [hkeep.block _ (by simp) (by simp)]
      exact heap_alloc_new w _
    obtain ⟨r0, r1, r2, r3, r4⟩ := tbox hbox
    have HBX : Hid _ := hbox
    have hBr : w.heap.size + 1 ≤ wr.heap.size := by have := hkeep.size; simp at this; omega
    have hGr := hG.keep hk
    clear hbox
    by_cases hlt : n < fs.length
    · obtain ⟨b, o, cp, cf, e, hcp, hGb, hc, hcell⟩ := (hF.keepF (hG.same hk) (fun _ h => h)).elem hlt
      cases e
      have FS := hfs fs[n] (List.getElem_mem hlt)
      have hsucc := plainTo_succ fs v true t n hlt
      have hle := plainTo_le fs v true t (n + 1)
      obtain ⟨aS, pS, rfl, hsub⟩ := hc.cells
      have hblt : b < wr.heap.size := hGr b hGb
      have hbw : b < w.heap.size := hG b hGb
      have c0 : wr.cell? ⟨b, o + n * 8, none⟩ = some _ := hcell 0 (by simp)
      have c1 : wr.cell? ⟨b, o + n * 8 + 1, none⟩ = some _ := hcell 1 (by simp)
      have c2 : wr.cell? ⟨b, o + n * 8 + 2, none⟩ = some _ := hcell 2 (by simp)
      have c3 : wr.cell? ⟨b, o + n * 8 + 3, none⟩ = some _ := hcell 3 (by simp)
      have c4 : wr.cell? ⟨b, o + n * 8 + 4, none⟩ = some _ := hcell 4 (by simp)
      have c5 : wr.cell? ⟨b, o + n * 8 + 5, none⟩ = some _ := hcell 5 (by simp)
      have c6 : wr.cell? ⟨b, o + n * 8 + 6, none⟩ = some _ := hcell 6 (by simp)
      have c7 : wr.cell? ⟨b, o + n * 8 + 7, none⟩ = some _ := hcell 7 (by simp)
      simp only [List.getElem_cons_zero, List.getElem_cons_succ] at c0 c1 c2 c3 c4 c5 c6 c7
      clear hcell
      generalize hfn : fs[n] = f at *
      have HFN : Hid (fs[n] = f) := hfn
      have HS : Hid _ := hsucc
      have HLE : Hid _ := hle
      clear hfn hsucc hle
      have HAS := fun W (hW : Keep [] wr W) => has_any (hc.keepF (hGr.same hW) (fun _ h => h)) v
      by_cases h1 : f.tag < 0
      · cases hhas : f.has v
        · rw [hhas] at HAS
          have HH : Hid (f.has v = false) := hhas
          clear hhas
          go_wp2_with (go_at_call 125; refine (HAS _ (keep_box _)).mono ?_; rintro e wh ⟨rfl, hkh⟩)
          go_roundw
          case rel =>
            refine ⟨n + 1, by omega, by go_num, ?_, hkeep.trans ((keep_box _).trans hkh)⟩
            have e1 := HS.out
            rw [HH.out] at e1
            simp at e1
            rw [e1]
            exact hown.keep ((keep_box _).trans hkh)
          case measure => simp [intOf]; omega
        · rw [hhas] at HAS
          have HH : Hid (f.has v = true) := hhas
          clear hhas
          have hlen : (plainTo fs v true t n).length + (fieldP f v true (atT t n)).length ≤ 1099511627776 := by
            have e1 := HS.out
            rw [HH.out] at e1
            simp [h1] at e1
            have e2 := HLE.out
            have e3 := HB.out
            rw [e1, List.length_append] at e2
            omega
          have HLN : Hid _ := hlen
          clear hlen
          go_wp2_with (go_at_call 125; refine (HAS _ (keep_box _)).mono ?_; rintro e wh ⟨rfl, hkh⟩; clear c0 c1 c2 c3 c4 c5 c6 c7 r0 r1 r2 r3 r4)
          have kh : Keep [] wr wh := (keep_box _).trans hkh
          have hb1 := oneBox hkh
          have hb2 : wh.heap[w.heap.size]? = some (.cells (tcells t az ps al pl au pu) 26) := (kh.block _ (by omega) (by simp)).trans HBX.out
          have hS := FTS.of hb1 hb2
          have HB1 : Hid _ := hb1
          have HB2 : Hid _ := hb2
          clear hb1 hb2
          have hwh : wr.heap.size + 1 ≤ wh.heap.size := by have := hkh.size; simp at this; omega
          go_region_held3 (fun w' => w'.cell? ⟨wr.heap.size, 0, none⟩ = some (.int .i64 f.kind) ∧ w'.cell? ⟨wr.heap.size, 1, none⟩ = some (.int .i64 f.frm) ∧ w'.cell? ⟨wr.heap.size, 2, none⟩ = some (.int .i64 f.to) ∧ w'.cell? ⟨wr.heap.size, 3, none⟩ = some (.int .i64 f.nul) ∧ w'.cell? ⟨wr.heap.size, 4, none⟩ = some (.int .i64 f.tag) ∧ w'.cell? ⟨wr.heap.size, 5, none⟩ = some (.int .i64 f.dfl) ∧ w'.cell? ⟨wr.heap.size, 6, none⟩ = some (.int .i64 f.ofk) ∧ w'.cell? ⟨wr.heap.size, 7, none⟩ = some (.slice aS f.sub.length pS) ∧ w'.cell? ⟨w.heap.size, 0, none⟩ = some (.int .i64 t.n) ∧ w'.cell? ⟨w.heap.size, 1, none⟩ = some (.slice az t.s.length ps) ∧ w'.cell? ⟨w.heap.size, 2, none⟩ = some (.bool t.null) ∧ w'.cell? ⟨w.heap.size, 3, none⟩ = some (.slice al t.l.length pl) ∧ w'.cell? ⟨w.heap.size, 4, none⟩ = some (.slice au t.u.length pu)) (exact hS) (first
            | (go_at_call 127; refine (AT _ (hk.trans (kh.trans (Keep.refl _ _).drew)) n).mono ?_; rintro e wx ⟨c', rfl, hc', kx⟩; obtain ⟨az', ps', al', pl', au', pu', rfl, _⟩ := hc'.cells; have kX : Keep [] wh wx := (Keep.refl _ _).drew.trans kx; have hS := FTS.of ((kX.block _ (by omega) (by simp)).trans HB1.out) ((kX.block _ (by omega) (by simp)).trans HB2.out))
            | (go_at_call 126; refine (FS G _ _ _ _ (hc.keepF (hGr.same (kh.trans kX)) (fun _ h => h)) hc' (hGr.keep (kh.trans kX)) (by have := HLN.out; omega)).mono ?_; rintro e wy ⟨d, rfl, hd, ky⟩; have kY : Keep [] wh wy := kX.trans ky; have hS := FTS.of ((kY.block _ (by omega) (by simp)).trans HB1.out) ((kY.block _ (by omega) (by simp)).trans HB2.out))
            | (refine app_step (by rfl) (.tmp 36) (.tmp 43) (by rfl) (w.heap.size + 1) _ (plainTo fs v true t n) (by rfl) (hown.keep (kh.trans kY)) _ _ _ (by rfl) hd.rb (by have := HLN.out; omega) (Nat.le_trans hBr (kh.trans kY).size) ?_; intro v' w3 ho hg; have hk3 := (hkeep.trans (kh.trans kY)).grown hg (fun k e => .inr (by have := ((hown.keep (kh.trans kY)).lt k e).1; simp; omega)); have hsy := kY.size; have hS := FTS.of ((hg.block wr.heap.size (by omega) (fun e => by have := (hown.lt _ e.symm).2; omega)).trans ((kY.block _ (by omega) (by simp)).trans HB1.out)) ((hg.block w.heap.size (by omega) (fun e => by have := (hown.lt _ e.symm).1; omega)).trans ((kY.block _ (by omega) (by simp)).trans HB2.out))))
          go_wp2
          go_roundw
          case rel =>
            refine ⟨n + 1, by omega, by go_num, ?_, hk3⟩
            have e1 := HS.out
            rw [HH.out] at e1
            simp [h1] at e1
            rw [e1]
            exact ho
          case measure => simp [intOf]; omega
      · go_wp2_with fail
        go_roundw
        case rel =>
          refine ⟨n + 1, by omega, by go_num, ?_, hkeep.trans (keep_box _)⟩
          have e1 := HS.out
          simp [h1] at e1
          rw [e1]
          exact hown.keep (keep_box _)
        case measure => simp [intOf]; omega
    · obtain rfl : n = fs.length := by omega
      have hK1 := fun W (hW : Keep [] wr W) => KN W (hk.trans hW)
      have hU1 := fun W (hW : Keep [] wr W) => UN W (hk.trans hW)
      obtain ⟨wo, rfl⟩ : ∃ x : World, x = wr := ⟨_, rfl⟩
      clear KN UN hF ht
      go_wp2_with (go_at_call 128; go_loud (refine (hK1 _ (Keep.refl _ _)).mono ?_; rintro e w1 ⟨rfl, k1⟩))
      go_loopw [52, 10, 11] (fun k tv mv wr => k = .int .i64 0 ∧ tv = .slice none 0 0 ∧ mv = .int .i64 0 ∧ w1 = wr) (fun _ _ _ _ => 0)
      case atStart => exact ⟨rfl, rfl, rfl, rfl⟩
      case round =>
        obtain ⟨rfl, rfl, rfl, rfl⟩ := hrel
        have q3 := ((k1.cell (p := ⟨w.heap.size, 4, none⟩) (by simp; omega) (by simp)).trans r4)
        have HU1 : Hid _ := Lib.hid (hU1 w1 k1)
        clear hU1 hK1 r0 r1 r2 r3 r4
        go_wp2_with (go_at_call 131; go_loud (refine Calls.mono HU1.out ?_; rintro e w2 ⟨d2, rfl, hg2, k2⟩; obtain ⟨a2, p2, rfl⟩ := hg2.shape))
        have hus : ∀ x ∈ unknownFrom 0 t.u, x.1 < 4294967296 := fun x hx => hkeys x ((unknownP_spec [] t.u).2.1 x hx)
        have husl : (unknownFrom 0 t.u).length ≤ 32767 := (unknownP_spec [] t.u).2.2
        have HTU2 : Hid _ := Lib.hid HTU.out
        clear HTU hkeys
        generalize unknownFrom 0 t.u = us at *
        have hBt : ∀ n, ((((us.map fun x => (x.1, whole x.2)).take n).map tagP).flatten).length ≤ 1099511627776 := fun n => by
          have e1 := HPL.out
          have e2 := HB.out
          rw [← e1, HTU2.out] at e2
          have e3 : ((us.map fun x => (x.1, whole x.2)).map tagP).flatten = ((((us.map fun x => (x.1, whole x.2)).take n).map tagP).flatten) ++ ((((us.map fun x => (x.1, whole x.2)).drop n).map tagP).flatten) := by
            rw [← List.flatten_append, ← List.map_append, List.take_append_drop]
          rw [e3] at e2
          simp only [List.length_append] at e2
          omega
        have HBT : Hid _ := Lib.hid hBt
        have hG2 : There (fun k => G k ∨ (w1.heap.size ≤ k ∧ k < w2.heap.size)) w2 := fun k hk => by
          rcases hk with h | h
          · have a1 := hGr k h
            have a2 := k1.size
            have a3 := k2.size
            omega
          · exact h.2
        clear hBt
        go_loopw [102, 10, 11] (fun k tv mv wr => ∃ n : Nat, n ≤ us.length ∧ k = .int .i64 (n : Int) ∧ mv = .int .i64 (n : Int) ∧ OB wr w2.heap.size tv ((((us.map fun x => (x.1, whole x.2)).take n).map tagP).flatten) ∧ Keep [] w2 wr) (fun k _ _ _ => us.length - (intOf k).toNat)
        case atStart => exact ⟨0, Nat.zero_le _, rfl, rfl, by simpa using OB.nil _ _, Keep.refl _ _⟩
        case round =>
          obtain ⟨wq, rfl⟩ : ∃ x : World, x = wr := ⟨_, rfl⟩
          obtain ⟨n, hn, rfl, rfl, hot, kq⟩ := hrel
          have hzq := kq.size
          by_cases hlt : n < us.length
          · obtain ⟨tb, tf, av, pv, e, hGb, c0, c1, hrb, hrl⟩ := (hg2.keepF (hG2.same kq) (fun _ h => h)).elem hlt
            cases e
            have hk32 := hus _ (List.getElem_mem hlt)
            have htbl := hG2.keep kq tb hGb
            have WH := fun W (hW : Keep [] wq W) => whole_any (w := W) (hrb.keepF ((hG2.keep kq).same hW) (fun _ h => h)) (by omega)
            have hsuc : (((us.map fun x => (x.1, whole x.2)).take (n + 1)).map tagP).flatten = (((us.map fun x => (x.1, whole x.2)).take n).map tagP).flatten ++ (uvarP us[n].1 ++ uvarP (whole us[n].2).length ++ whole us[n].2) := by
              rw [List.take_succ_eq_append_getElem (by simpa using hlt)]
              simp [tagP]
            have hbn := HBT.out (n + 1)
            rw [hsuc] at hbn
            simp only [List.length_append] at hbn
            have HSUC : Hid _ := Lib.hid hsuc
            have hwl := whole_len us[n].2
            clear hsuc hrb
            generalize hkey : us[n].1 = key at *
            generalize hsl : us[n].2.length = sl at *
            generalize hwo : whole us[n].2 = wo2 at *
            generalize hacc : (((us.map fun x => (x.1, whole x.2)).take n).map tagP).flatten = acc at *
            clear hkey hsl hwo hacc
            have tok1 : Hid True := Lib.hid trivial
            go_wp2_with (first
              | (go_at_call 132; go_loud (refine (WH _ (keep_box _)).mono ?_; rintro e wx ⟨d3, rfl, hd3, rfl⟩; obtain ⟨a3, p3, rfl⟩ := RS.shape hd3; have hB0 := (keep_box (A := []) (w := wq) (.cells #[.int .u32 (key : Int), .slice av sl pv] 77)); clear c0 c1))
              | (go_at_call 130; have _t := tok1; go_loud (refine (uvar_any key (by omega) _).mono ?_; rintro e w3 ⟨d4, rfl, h4, k4⟩; have K4 := hB0.trans k4; have hz4 := K4.size; clear tok1 _t; have tok2 : Hid True := Lib.hid trivial))
              | (at_builtin; have _t := tok2; go_loud (refine app_ob rfl (.tmp 109) (.tmp 113) rfl w2.heap.size _ acc rfl (hot.keep K4) _ (uvarP key) _ rfl h4.rb (by omega) (by omega) ?_; intro v5 w5 h5 g5; have K5 : Keep [] w2 w5 := grow_keep (kq.trans K4) (hot.keep K4) (Nat.le_refl _) g5; have hz5 := K5.size; clear tok2 _t; have tok3 : Hid True := Lib.hid trivial))
              | (go_at_call 130; have _t := tok3; go_loud (refine (uvar_any wo2.length (by omega) _).mono ?_; rintro e w6 ⟨d6, rfl, h6, k6⟩; have K6 := K5.trans k6; have hz6 := K6.size; clear tok3 _t; have tok4 : Hid True := Lib.hid trivial))
              | (at_builtin; have _t := tok4; go_loud (refine app_ob rfl (.tmp 114) (.tmp 118) rfl w2.heap.size _ (acc ++ uvarP key) rfl (h5.keep k6) _ (uvarP wo2.length) _ rfl h6.rb (by simp only [List.length_append]; omega) (by omega) ?_; intro v7 w7 h7 g7; have K7 : Keep [] w2 w7 := grow_keep K6 (h5.keep k6) (Nat.le_refl _) g7; have hz7 := K7.size; have SM : SameOn (fun k => G k ∨ (w1.heap.size ≤ k ∧ k < w2.heap.size)) w2 w7 := hG2.same K7; clear tok4 _t; have tok5 : Hid True := Lib.hid trivial))
              | (at_builtin; have _t := tok5; go_loud (refine app_ob rfl (.tmp 119) (.tmp 120) rfl w2.heap.size _ ((acc ++ uvarP key) ++ uvarP wo2.length) rfl h7 _ wo2 _ rfl (hd3.keepF (fun k hk => (SM k hk).trans (((hG2.same (kq.trans hB0)) k hk).symm)) (fun _ h => h)) (by simp only [List.length_append]; omega) (by omega) ?_; intro v8 w8 h8 g8; have K8 : Keep [] w2 w8 := grow_keep K7 h7 (Nat.le_refl _) g8; clear tok5 _t)))
            go_roundw
            case rel => exact ⟨n + 1, by omega, by go_num, by go_num, by rw [HSUC.out, ← List.append_assoc, ← List.append_assoc]; exact h8, K8⟩
            case measure => simp [intOf]; omega
          · obtain rfl : n = us.length := by omega
            have hall : (((us.map fun x => (x.1, whole x.2)).take us.length).map tagP).flatten = ((us.map fun x => (x.1, whole x.2)).map tagP).flatten := by
              rw [List.take_of_length_le (by simp)]
            rw [hall] at hot
            have HALL : Hid _ := Lib.hid hot
            have hb2 := HBT.out us.length
            rw [hall] at hb2
            have hpl := HPL.out
            rw [HTU2.out, List.length_map] at hpl
            have HPL2 : Hid _ := Lib.hid hpl
            have hbb : (plainTo fs v true t fs.length).length + ((uvarP us.length).length + (((us.map fun x => (x.1, whole x.2)).map tagP).flatten).length) ≤ 1099511627776 := by
              have e := HB.out
              rw [← hpl] at e
              simpa only [List.length_append] using e
            have hoo := hown.keep (k1.trans (k2.trans kq))
            have HGK : Hid _ := Lib.hid (fun k e => hown.lt k e)
            clear hall hot hpl hb2 hown
            generalize ((us.map fun x => (x.1, whole x.2)).map tagP).flatten = tg at *
            generalize plainTo fs v true t fs.length = pl0 at *
            have hz1 := k1.size
            have hz2 := k2.size
            have tok1 : Hid True := Lib.hid trivial
            go_wp2_with (first
              | (go_at_call 130; go_loud (refine (uvar_any us.length (by omega) _).mono ?_; rintro e w3 ⟨d4, rfl, h4, k4⟩; have hz4 := k4.size))
              | (at_builtin; have _t := tok1; go_loud (refine app_ob rfl (.tmp 125) (.tmp 128) rfl (w.heap.size + 1) _ pl0 rfl (hoo.keep k4) _ (uvarP us.length) _ rfl h4.rb (by omega) (by omega) ?_; intro v5 w5 h5 g5; have hgk := HGK.out; clear tok1 _t; have tok2 : Hid True := Lib.hid trivial))
              | (at_builtin; have _t := tok2; go_loud (refine app_ob rfl (.tmp 129) (.tmp 130) rfl (w.heap.size + 1) _ (pl0 ++ uvarP us.length) rfl h5 _ tg (fun k => w2.heap.size ≤ k ∧ k < wq.heap.size) rfl (HALL.out.rb.keepF (fun k hk => (g5.block k (by omega) (fun e => by have := hgk k e.symm; omega)).trans (k4.block k hk.2 (by simp))) (fun _ h => h)) (by simp only [List.length_append]; omega) (by have := g5.size; omega) ?_; intro v8 w8 h8 g8; clear tok2 _t)))
            go_ret
            have KZ : Keep [] w w8 := (((hk.trans (k1.trans (k2.trans (kq.trans k4)))).grown g5 (fun k e => .inr (by have := hgk k e; omega))).grown g8 (fun k e => .inr (by have := (h5.lt k e).1; omega)))
            refine ⟨_, rfl, ?_, KZ⟩
            rw [← HPL2.out, ← List.append_assoc]
            exact h8.lower (by omega)
theorem un_noTags : ∀ {fs : List F}, untagged fs = true → noTags fs = true
  | [], _ => rfl
  | f :: r, h => by
    simp only [untagged, Bool.and_eq_true] at h
    simp only [noTags, Bool.and_eq_true]
    exact ⟨h.1, un_noTags h.2⟩
mutual
theorem fieldSaid_flex (v : Int) : ∀ f, wfF true f = true → FieldSaid f v true
  | .mk k a b c d e o sub, h => by
    have hs : wfFs true sub = true := by
      simp only [wfF, Bool.and_eq_true] at h
      exact h.1.2
    exact field_any (f := .mk k a b c d e o sub) (part_flex (fs := sub) (un_noTags (wfFs_untagged hs)) (fieldsSaid_flex v sub hs))
theorem fieldsSaid_flex (v : Int) : ∀ (fs : List F), wfFs true fs = true → ∀ f ∈ fs, FieldSaid f v true
  | [], _, _, h => absurd h (by simp)
  | g :: r, hw, f, h => by
    simp only [wfFs, Bool.and_eq_true] at hw
    rcases List.mem_cons.1 h with e | h'
    · rw [e]; exact fieldSaid_flex v g hw.1
    · exact fieldsSaid_flex v r hw.2 f h'
end
/-- spec.part at the fields of every message without tagged fields -/
theorem partSaid_wf (fs : List F) (v : Int) (flex : Bool) (h : flex = true → wfFs true fs = true) : PartSaid fs v flex := by
  cases flex with
  | false => exact partSaid_plain fs v
  | true => exact part_flex (un_noTags (wfFs_untagged (h rfl))) (fieldsSaid_flex v fs (h rfl))
end Go.Proofs.YtobbchmjgoaleaaGreatDoor
/-
  The numbers at which this program lays what sort.Slice comes to: the laying that the kit's contract asks for, in plain words (written by a program of ours off the kit's own command).
-/
namespace Go.Proofs
open Go.Shelf
def Tryz.sl6_ren : Go.Shelf.Ren := ⟨fun | 6 => 221 | 10 => 225 | 11 => 226 | 12 => 227 | 13 => 228 | 14 => 229 | 24 => 220 | 25 => 240 | 26 => 241 | 27 => 242 | 28 => 243 | 29 => 244 | 30 => 245 | 31 => 246 | 32 => 247 | 33 => 248 | 34 => 249 | 35 => 250 | 36 => 251 | 37 => 252 | 38 => 253 | 39 => 254 | n => n, fun | 20 => 20 | 26 => 202 | 35 => 209 | 0 => 0 | 37 => 211 | 3 => 3 | 41 => 173 | 44 => 216 | 49 => 75 | 51 => 91 | 4 => 4 | 54 => 224 | 53 => 223 | 58 => 228 | 5 => 5 | 9 => 9 | 60 => 230 | 64 => 233 | 66 => 235 | 67 => 236 | 17 => 17 | 32 => 206 | 33 => 207 | 82 => 251 | 12 => 12 | 75 => 244 | 76 => 245 | 77 => 246 | 78 => 247 | 79 => 248 | 80 => 249 | n => n, fun | n => n⟩
theorem Tryz.sl6 : LaysGg.n6 Tryz.prog Tryz.sl6_ren := {
  mixed := by kernel_rfl
  f6 := Tryz.func221.trans (congrArg some (by kernel_rfl))
  f10 := Tryz.func225.trans (congrArg some (by kernel_rfl))
  f11 := Tryz.func226.trans (congrArg some (by kernel_rfl))
  f12 := Tryz.func227.trans (congrArg some (by kernel_rfl))
  f13 := Tryz.func228.trans (congrArg some (by kernel_rfl))
  f14 := Tryz.func229.trans (congrArg some (by kernel_rfl))
  f24 := Tryz.func220.trans (congrArg some (by kernel_rfl))
  f25 := Tryz.func240.trans (congrArg some (by kernel_rfl))
  f26 := Tryz.func241.trans (congrArg some (by kernel_rfl))
  f27 := Tryz.func242.trans (congrArg some (by kernel_rfl))
  f28 := Tryz.func243.trans (congrArg some (by kernel_rfl))
  f29 := Tryz.func244.trans (congrArg some (by kernel_rfl))
  f30 := Tryz.func245.trans (congrArg some (by kernel_rfl))
  f31 := Tryz.func246.trans (congrArg some (by kernel_rfl))
  f32 := Tryz.func247.trans (congrArg some (by kernel_rfl))
  f33 := Tryz.func248.trans (congrArg some (by kernel_rfl))
  f34 := Tryz.func249.trans (congrArg some (by kernel_rfl))
  f35 := Tryz.func250.trans (congrArg some (by kernel_rfl))
  f36 := Tryz.func251.trans (congrArg some (by kernel_rfl))
  f37 := Tryz.func252.trans (congrArg some (by kernel_rfl))
  f38 := Tryz.func253.trans (congrArg some (by kernel_rfl))
  f39 := Tryz.func254.trans (congrArg some (by kernel_rfl))
  t0 := Tryz.underlying0
  a0 := Tryz.isAgg0
  z0 := Tryz.sizeOf0
  v0 := Tryz.zeroValue0
  i0 := by kernel_rfl
  t3 := Tryz.underlying3
  a3 := Tryz.isAgg3
  z3 := Tryz.sizeOf3
  v3 := Tryz.zeroValue3
  i3 := by kernel_rfl
  t4 := Tryz.underlying4
  a4 := Tryz.isAgg4
  z4 := Tryz.sizeOf4
  v4 := Tryz.zeroValue4
  i4 := by kernel_rfl
  t5 := Tryz.underlying5
  a5 := Tryz.isAgg5
  z5 := Tryz.sizeOf5
  v5 := Tryz.zeroValue5
  i5 := by kernel_rfl
  t9 := Tryz.underlying9
  a9 := Tryz.isAgg9
  z9 := Tryz.sizeOf9
  v9 := Tryz.zeroValue9
  i9 := by kernel_rfl
  t12 := Tryz.underlying12
  a12 := Tryz.isAgg12
  z12 := Tryz.sizeOf12
  v12 := Tryz.zeroValue12
  i12 := by kernel_rfl
  t17 := Tryz.underlying17
  a17 := Tryz.isAgg17
  z17 := Tryz.sizeOf17
  v17 := Tryz.zeroValue17
  i17 := by kernel_rfl
  t20 := Tryz.underlying20
  a20 := Tryz.isAgg20
  z20 := Tryz.sizeOf20
  v20 := Tryz.zeroValue20
  i20 := by kernel_rfl
  t26 := Tryz.underlying202
  a26 := Tryz.isAgg202
  z26 := Tryz.sizeOf202
  v26 := Tryz.zeroValue202
  i26 := by kernel_rfl
  t32 := Tryz.underlying206
  a32 := Tryz.isAgg206
  z32 := Tryz.sizeOf206
  v32 := Tryz.zeroValue206
  i32 := by kernel_rfl
  t33 := Tryz.underlying207
  a33 := Tryz.isAgg207
  z33 := Tryz.sizeOf207
  v33 := Tryz.zeroValue207
  i33 := by kernel_rfl
  t35 := Tryz.underlying209
  a35 := Tryz.isAgg209
  z35 := Tryz.sizeOf209
  v35 := Tryz.zeroValue209
  i35 := by kernel_rfl
  t37 := Tryz.underlying211
  a37 := Tryz.isAgg211
  z37 := Tryz.sizeOf211
  v37 := Tryz.zeroValue211
  i37 := by kernel_rfl
  t41 := Tryz.underlying173
  a41 := Tryz.isAgg173
  z41 := Tryz.sizeOf173
  v41 := Tryz.zeroValue173
  i41 := by kernel_rfl
  t44 := Tryz.underlying216
  a44 := Tryz.isAgg216
  z44 := Tryz.sizeOf216
  v44 := Tryz.zeroValue216
  i44 := by kernel_rfl
  t49 := Tryz.underlying75
  a49 := Tryz.isAgg75
  z49 := Tryz.sizeOf75
  v49 := Tryz.zeroValue75
  i49 := by kernel_rfl
  t51 := Tryz.underlying91
  a51 := Tryz.isAgg91
  z51 := Tryz.sizeOf91
  v51 := Tryz.zeroValue91
  i51 := by kernel_rfl
  t53 := Tryz.underlying223
  a53 := Tryz.isAgg223
  z53 := Tryz.sizeOf223
  v53 := Tryz.zeroValue223
  i53 := by kernel_rfl
  t54 := Tryz.underlying224
  a54 := Tryz.isAgg224
  z54 := Tryz.sizeOf224
  v54 := Tryz.zeroValue224
  i54 := by kernel_rfl
  t58 := Tryz.underlying228
  a58 := Tryz.isAgg228
  z58 := Tryz.sizeOf228
  v58 := Tryz.zeroValue228
  i58 := by kernel_rfl
  t60 := Tryz.underlying230
  a60 := Tryz.isAgg230
  z60 := Tryz.sizeOf230
  v60 := Tryz.zeroValue230
  i60 := by kernel_rfl
  t64 := Tryz.underlying233
  a64 := Tryz.isAgg233
  z64 := Tryz.sizeOf233
  v64 := Tryz.zeroValue233
  i64 := by kernel_rfl
  t66 := Tryz.underlying235
  a66 := Tryz.isAgg235
  z66 := Tryz.sizeOf235
  v66 := Tryz.zeroValue235
  i66 := by kernel_rfl
  t67 := Tryz.underlying236
  a67 := Tryz.isAgg236
  z67 := Tryz.sizeOf236
  v67 := Tryz.zeroValue236
  i67 := by kernel_rfl
  t75 := Tryz.underlying244
  a75 := Tryz.isAgg244
  z75 := Tryz.sizeOf244
  v75 := Tryz.zeroValue244
  i75 := by kernel_rfl
  t76 := Tryz.underlying245
  a76 := Tryz.isAgg245
  z76 := Tryz.sizeOf245
  v76 := Tryz.zeroValue245
  i76 := by kernel_rfl
  t77 := Tryz.underlying246
  a77 := Tryz.isAgg246
  z77 := Tryz.sizeOf246
  v77 := Tryz.zeroValue246
  i77 := by kernel_rfl
  t78 := Tryz.underlying247
  a78 := Tryz.isAgg247
  z78 := Tryz.sizeOf247
  v78 := Tryz.zeroValue247
  i78 := by kernel_rfl
  t79 := Tryz.underlying248
  a79 := Tryz.isAgg248
  z79 := Tryz.sizeOf248
  v79 := Tryz.zeroValue248
  i79 := by kernel_rfl
  t80 := Tryz.underlying249
  a80 := Tryz.isAgg249
  z80 := Tryz.sizeOf249
  v80 := Tryz.zeroValue249
  i80 := by kernel_rfl
  t82 := Tryz.underlying251
  a82 := Tryz.isAgg251
  z82 := Tryz.sizeOf251
  v82 := Tryz.zeroValue251
  i82 := by kernel_rfl
  }
end Go.Proofs
