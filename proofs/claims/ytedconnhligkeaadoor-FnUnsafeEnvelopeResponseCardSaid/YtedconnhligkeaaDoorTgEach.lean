/-
  Tags.Each: the call that it is given is called for each tag, by rising numbers.
-/
import Derived.Test.YtedconnhligkeaaDoorTgSort
import Derived.Maps.OwnSet
import Derived.OwnWalk
import Derived.WalkSpells
import Derived.Shelf.Abstract
namespace Go.Proofs.YtedconnhligkeaaDoor
open Go.ChangeShapes Go.WideShapes Go.ChangeAt Go.RowKit

/-- outside J everything is as it was -/
structure Chg (J : Nat → Prop) (w w' : World) : Prop where
  os : w'.os = w.os
  tape : w'.tape = w.tape
  output : w'.output = w.output
  size : w.heap.size ≤ w'.heap.size
  block : ∀ k, k < w.heap.size → ¬ J k → w'.heap[k]? = w.heap[k]?
theorem Chg.refl (J : Nat → Prop) (w : World) : Chg J w w := ⟨rfl, rfl, rfl, Nat.le_refl _, fun _ _ _ => rfl⟩
theorem Keep.chg {w w' : World} (h : Keep [] w w') (J : Nat → Prop) : Chg J w w' := ⟨h.os, h.tape, h.output, h.size, fun k hk _ => h.block k hk (by simp)⟩
theorem Chg.trans {J J1 J2 : Nat → Prop} {w w1 w2 : World} (h : Chg J1 w w1) (k : Chg J2 w1 w2) (h1 : ∀ j, J1 j → J j ∨ w.heap.size ≤ j) (h2 : ∀ j, J2 j → J j ∨ w.heap.size ≤ j) : Chg J w w2 :=
  ⟨k.os.trans h.os, k.tape.trans h.tape, k.output.trans h.output, Nat.le_trans h.size k.size, fun j hj hn =>
    (k.block j (Nat.lt_of_lt_of_le hj h.size) (fun e => by
      rcases h2 j e with e | e
      · exact hn e
      · omega)).trans (h.block j hj (fun e => by
      rcases h1 j e with e | e
      · exact hn e
      · omega))⟩

theorem grown_set (w : World) (p : Addr) (u : Value) : w.grownBy (w.setCell p u) (some p.block) := ⟨rfl, rfl, rfl, by simp [World.setCell], fun k hk hne => Below.heap_setCell _ _ _ _ (fun e => hne (by rw [e]))⟩
/-- what was met so far -/
def Coll (tv : List (Nat × Value)) (left : Lit → Bool) (ss : List Int) : Prop :=
  ss.Nodup ∧ (∀ x : Int, left (.int .u32 x) = true → Maps.has (tD tv) (.int .u32 x) = true) ∧ ∀ x : Int, x ∈ ss ↔ (Maps.has (tD tv) (.int .u32 x) = true ∧ left (.int .u32 x) = false)
theorem Coll.start (tv : List (Nat × Value)) : Coll tv (Maps.has (tD tv)) [] :=
  ⟨List.nodup_nil, fun _ h => h, fun x => by cases Maps.has (tD tv) (.int .u32 x) <;> simp⟩
theorem Coll.step {tv : List (Nat × Value)} {left : Lit → Bool} {ss : List Int} (h : Coll tv left ss) {x : Int} (hl : left (.int .u32 x) = true) : Coll tv (fun z => left z && !z.sameKey (.int .u32 x)) (ss ++ [x]) := by
  obtain ⟨h1, h2, h3⟩ := h
  refine ⟨?_, fun y hy => h2 y (by simp at hy; exact hy.1), fun y => ?_⟩
  · refine List.nodup_append.2 ⟨h1, by simp, fun a ha b hb => ?_⟩
    simp at hb
    subst hb
    rintro rfl
    have := ((h3 a).1 ha).2
    rw [hl] at this
    cases this
  · simp only [List.mem_append, List.mem_singleton, h3]
    by_cases e : y = x
    · subst e
      simp [Lit.sameKey, h2 y hl]
    · have : (Lit.int .u32 y).sameKey (.int .u32 x) = false := by simp [Lit.sameKey, e]
      simp [this, e]
theorem Coll.perm {tv : List (Nat × Value)} {left : Lit → Bool} {ss : List Int} (h : Coll tv left ss) (hr : Rising tv) (hl : ∀ kl, left kl = false) : ss.Perm (tv.map fun x => (x.1 : Int)) := by
  obtain ⟨h1, _, h3⟩ := h
  refine (List.perm_ext_iff_of_nodup h1 ?_).2 fun x => ?_
  · refine List.pairwise_map.2 (hr.imp fun {a b} hab => ?_)
    omega
  · rw [h3]
    simp only [hl, and_true, List.mem_map]
    constructor
    · intro hx
      obtain ⟨y, hy, e⟩ := tD_has hx
      exact ⟨y, hy, e⟩
    · rintro ⟨y, hy, rfl⟩
      exact tD_has_mem hy
theorem keys_lt {tv : List (Nat × Value)} (hr : Rising tv) : (tv.map fun x => (x.1 : Int)).Pairwise (· < ·) := List.pairwise_map.2 (hr.imp fun {a b} hab => by omega)

theorem info_n32 : (Tryd.prog.info? 48).map (fun i => (i.zero, i.size, i.bytes)) = some (some (.int .u32 0), 1, 4) := by kernel_rfl
theorem zero_sl : ∀ w, (zeroValue 22).run Tryd.prog w = .ok (.slice none 0 0) w := Tryd.zeroValue22
theorem tlook {tv : List (Nat × Value)} {n r : Nat} {w : World} (hown : w.ownsMap Tryd.prog 48 tR r n (tD tv)) (hr : Rising tv) (hlt : ∀ x ∈ tv, x.1 < 4294967296) {x : Nat × Value} (hx : x ∈ tv) :
    (Instr.lookup 55 (.map (some r)) (.int .u32 (x.1 : Int)) false).run Tryd.prog w = .ok x.2 w := by
  obtain ⟨v, ps, h1, h2⟩ := hown.lookup (Maps.int_keyed Tryd.underlying48) Tryd.underlying55 (zero_sl w) (zd := .held (.slice none 0 0)) (zp := []) rfl (Maps.keyOf_int_mk Tryd.underlying48 (wf_u32 (hlt x hx)))
  rw [tD_at hr hx] at h2
  simp only [tR, Option.some.injEq, Prod.mk.injEq, DataW.held.injEq] at h2
  rw [h1, h2.1]

set_option maxHeartbeats 1000000 in
set_option maxRecDepth 100000 in
theorem each_any {b i n fn : Nat} {v p : Value} {tv : List (Nat × Value)} {w : World} {c : Array Value} {t : TypeId} (hb : w.heap[b]? = some (.cells c t (0, 0))) (hc : c[i]? = some v) (hm : MO w v n tv) (hn : n ≤ 17179869184)
    (eg : ∀ args w, (callFunc fn args).run Tryd.prog w = .ok (.enter fn args) w)
    (I : Nat → (Nat → Prop) → World → Prop) (J0 : Nat → Prop) (hI : I 0 J0 w) (hJb : ¬ J0 b) (hJm : ∀ k ∈ mblk v, ¬ J0 k) (hJlt : ∀ k, J0 k → k < w.heap.size)
    (hkeep : ∀ d J W W', I d J W → Keep [] W W' → I d J W')
    (hstep : ∀ j (hj : j < tv.length) J W, I j J W → w.heap.size ≤ W.heap.size → Calls Tryd.prog fn #[.int .u32 (tv[j].1 : Int), tv[j].2, p] W fun e W' => e = .returned (.tuple #[]) ∧ ∃ J', I (j + 1) J' W' ∧ (∀ j, J' j → J j ∨ W.heap.size ≤ j) ∧ Chg J W W') :
    Calls Tryd.prog 29 #[.pointer (some ⟨b, i, none⟩), .func (.func fn) #[] #[p]] w fun e w' => e = .returned (.tuple #[]) ∧ ∃ J', I tv.length J' w' ∧ (∀ j, J' j → J0 j ∨ w.heap.size ≤ j) ∧ Chg J0 w w' := by
  have hbl : b < w.heap.size := (Array.getElem?_eq_some_iff.1 hb).1
  obtain ⟨hr, hlt, hcase⟩ := hm
  by_cases h0 : tv = []
  · subst h0
    have cb : w.cell? ⟨b, i, none⟩ = some v := cellOf hb i _ hc
    rcases hcase with ⟨rfl, _⟩ | ⟨r, rfl, hown⟩
    · have hlen := Maps.len_nil (w := w) Tryd.underlying55 3
      go_enter Tryd.func29, Tryd.ntmps29
      go_wp2_with fail
      refine bodyPost_ret (v := .tuple #[]) (by simp [results, Tryd.results29, go_sem]) rfl ⟨rfl, J0, hI, fun _ h => .inl h, Chg.refl _ _⟩
    · have hlen := hown.len Tryd.underlying55 3
      rw [tD_size] at hlen
      go_enter Tryd.func29, Tryd.ntmps29
      go_wp2_with fail
      refine bodyPost_ret (v := .tuple #[]) (by simp [results, Tryd.results29, go_sem]) rfl ⟨rfl, J0, hI, fun _ h => .inl h, Chg.refl _ _⟩
  rcases hcase with ⟨_, h⟩ | ⟨r, rfl, hown⟩
  · exact absurd h h0
  obtain ⟨i0, hi, hy0, hy1, hy2⟩ := info_parts info_n32
  have hpos : 0 < tv.length := List.length_pos_iff.2 h0
  have hsz : tv.length ≤ n := by
    obtain ⟨es, clock, _, _, h, e⟩ := hown
    have h2 := congrArg Maps.size e
    rw [tD_size] at h2
    simp [Maps.size, length_sorted] at h2
    omega
  have cb : w.cell? ⟨b, i, none⟩ = some (.map (some r)) := cellOf hb i _ hc
  have hlen := hown.len Tryd.underlying55 3
  rw [tD_size] at hlen
  have hrl := hown.lt
  go_enter Tryd.func29, Tryd.ntmps29
  go_wp2_with (first
    | (at_make; go_loud (refine wpList_make_own _ rfl _ _ 74 rfl w.heap.size 48 i0 (.int .u32 0) 1 Tryd.underlying74 hi hy0 hy1 _ _ _ tv.length rfl rfl rfl (by rw [hy2]; omega) (by unfold maxLen; omega) (Nat.le_refl _) ?_; intro w1 hrow1 hg1; have kg1 : Keep [] w w1 := (Keep.refl _ _).grown hg1 (by simp); have cb1 : (w1.alloc (.cells #[.slice (some ⟨w.heap.size, 0, none⟩) 0 tv.length] 74)).cell? ⟨b, i, none⟩ = some (.map (some r)) := ((kg1.alloc _).cell (p := ⟨b, i, none⟩) hbl (by simp)).trans cb))
    | (at_range; go_loud (refine wpList_range_own _ rfl _ 55 rfl 48 22 (Maps.int_keyed Tryd.underlying48) Tryd.underlying55 _ r n _ rfl ((hown.kept hg1 (by simp)).alloc _) ?_; intro w0 hrg0 hg0 hs0)))
  go_frame
  have k0 : Keep [] w w0 := (kg1.alloc _).grown hg0 (by simp)
  have hz1 : w.heap.size + 1 ≤ w1.heap.size := by
    rcases hrow1.2 with ⟨h, _⟩ | ⟨g, cap, cur, e, _, hb', _⟩
    · cases h
    · cases e
      have := (Array.getElem?_eq_some_iff.1 hb').1
      omega
  have hz0' : w0.heap.size = w1.heap.size + 2 := by simpa using hs0
  have hri1 : w1.heap.size < (w1.alloc (.cells #[.slice (some ⟨w.heap.size, 0, none⟩) 0 tv.length] 74)).heap.size := by simp
  have hri2 : (w1.alloc (.cells #[.slice (some ⟨w.heap.size, 0, none⟩) 0 tv.length] 74)).heap.size < w0.heap.size := by rw [hz0']; simp
  have hbox0 : w0.heap[w1.heap.size]? = some (.cells #[.slice (some ⟨w.heap.size, 0, none⟩) 0 tv.length] 74 (0, 0)) := (hg0.block _ (by simp) (by simp)).trans (heap_alloc_new w1 _)
  have hrow0 := (hrow1.alloc (.cells #[.slice (some ⟨w.heap.size, 0, none⟩) 0 tv.length] 74)).kept hg0 (Or.inr (by simp [Value.ownBlock]))
  rw [tD_size] at hrg0
  clear hs0 cb1 cb hlen hrow1
  generalize (w1.alloc (.cells #[.slice (some ⟨w.heap.size, 0, none⟩) 0 tv.length] 74)).heap.size = rI at *
  go_loopw [5] (fun _ wr => ∃ (left : Lit → Bool) (cnt : Nat) (ss : List Int), wr.ranges Tryd.prog 48 tR r rI n (tD tv) left cnt ∧ ss.length + cnt ≤ tv.length ∧
      wr.heap[w1.heap.size]? = some (.cells #[.slice (some ⟨w.heap.size, 0, none⟩) ss.length tv.length] 74 (0, 0)) ∧ wr.ownsRow w.heap.size 48 1 (.slice (some ⟨w.heap.size, 0, none⟩) ss.length tv.length) ss.length (ss.map (Value.int .u32)) ∧ Coll tv left ss ∧ Keep [] w wr ∧ w1.heap.size + 2 ≤ wr.heap.size)
    (fun _ wr => wr.rangeLeft r rI)
  case atStart => exact ⟨_, _, [], hrg0, by simp, hbox0, hrow0, Coll.start tv, k0, by omega⟩
  case round =>
    obtain ⟨left, cnt, ss, hrg, hcs, hbx, hrow, hC, hk, hzr⟩ := hrel
    have qb : wr.cell? ⟨w1.heap.size, 0, none⟩ = some (.slice (some ⟨w.heap.size, 0, none⟩) ss.length tv.length) := cellOf hbx 0 _ rfl
    have fb := freeOf hbx 0
    have HBX : Hid _ := hbx
    clear hbx hbox0
    go_wp2_with (first
      | (at_next; go_loud (refine wpList_next_ranges _ rfl _ rfl 48 (Maps.int_keyed Tryd.underlying48) tR (Value.int .u32) (fun v : Value => v) (fun key kl hkey => by obtain ⟨x, rfl, _⟩ := Maps.keyOf_int_inv Tryd.underlying48 hkey; exact ⟨x, rfl⟩) (fun v y _ => ⟨v, rfl⟩) r rI n _ _ _ rfl hrg ?_ ?_)))
    · intro hc0 hl0
      have hperm := hC.perm hr hl0
      have hK := keys_lt hr
      obtain ⟨cur, hcur, hcz, hct⟩ : ∃ cur, wr.heap[w.heap.size]? = some (.cells cur 48 (0, 0)) ∧ cur.size = tv.length ∧ cur.toList.take ss.length = ss.map (Value.int .u32) := by
        rcases hrow.2 with ⟨h, _⟩ | ⟨g, cap, cur, e, _, hb', _, _, h3, h4⟩
        · cases h
        · cases e
          exact ⟨cur, hb', by simpa using h3, by simpa using h4⟩
      have hsl : ss.length = tv.length := by have := hperm.length_eq; simpa using this
      have TS := tsort_any (tb := 74) hcur hct (by omega) HBX.out (by omega) (by omega) hK hperm
      rw [hsl] at TS qb hct
      clear hrow hcs
      have Q := fun w' (h : Keep [w.heap.size] wr w') => (h.cell (p := ⟨w1.heap.size, 0, none⟩) (World.block_lt_of_cell? wr _ qb) (by simp; omega)).trans qb
      have HQ : Hid _ := Q
      have HSL : Hid _ := hsl
      clear hcur Q hsl hct hperm hC
      go_wp2_with (go_at_call 39; go_loud (refine TS.mono ?_; rintro e ws ⟨rfl, cur', hcur', hct', hcz', ks⟩; have qs := HQ.out ws ks))
      have kS : Keep [] w ws := ((hk.weaken (B := [w.heap.size]) (by simp)).trans ks).fresh (by simp)
      have hgJ : ¬ J0 w.heap.size := fun h => by have := hJlt _ h; omega
      have hII := hkeep _ _ _ _ hI kS
      have HKEY : Hid _ := hct'
      have hce : ∀ j (hj : j < tv.length), cur'[j]? = some (.int .u32 (tv[j].1 : Int)) := fun j hj => by
        have e := congrArg (fun l => l[j]?) HKEY.out
        simp only [List.getElem?_take_of_lt hj, Array.getElem?_toList, List.map_map, List.getElem?_map, List.getElem?_eq_getElem hj, Option.map_some] at e
        exact e
      clear hct' qs qb fb hkeep TS
      go_loopw [39, 7] (fun k _ wq => ∃ (j : Nat) (J : Nat → Prop), k = .int .i64 (j : Int) ∧ j ≤ tv.length ∧ I j J wq ∧ (∀ x, J x → J0 x ∨ w.heap.size ≤ x) ∧ Chg J0 w wq ∧ ¬ J w.heap.size ∧ wq.heap[w.heap.size]? = some (.cells cur' 48 (0, 0))) (fun k _ _ => tv.length - (intOf k).toNat)
      case atStart => exact ⟨0, J0, rfl, Nat.zero_le _, hII, fun _ h => .inl h, kS.chg _, hgJ, hcur'⟩
      case round =>
        obtain ⟨j, J, rfl, hj, hIj, hJ, hch, hgj, hcq⟩ := hrel
        have hbq := (hch.block b hbl hJb).trans hb
        have cbq : _ := cellOf hbq i _ hc
        by_cases hlt2 : j < tv.length
        · have hmem : tv[j] ∈ tv := List.getElem_mem hlt2
          have hcj := cellOf hcq j _ (hce j hlt2)
          have hlook := tlook (w := _) (let ⟨es, clock, hb', h4⟩ := hown; ⟨es, clock, (hch.block r hrl (hJm r (by simp [mblk]))).trans hb', h4⟩) hr hlt hmem
          have HS := hstep j hlt2 J _ hIj hch.size
          have hzq := hch.size
          clear hmem hbq hcur'
          generalize hx : tv[j] = x at *
          obtain ⟨kx, vx⟩ := x
          clear hx
          simp only at hcj hlook HS
          have hgz := World.block_lt_of_cell? _ _ hcj
          have HCQ : Hid _ := hcq
          clear hcq
          go_wp2_with (go_at_fn fn; go_loud (refine HS.mono ?_; rintro e wz ⟨rfl, J', hI', hJ', hcz⟩))
          refine ⟨⟨j + 1, J', by go_num, by omega, hI', fun y h => (hJ' y h).elim (hJ y) (fun h => .inr (by omega)), hch.trans hcz (fun _ h => .inl h) hJ, fun h => (hJ' _ h).elim hgj (fun h => by omega), (hcz.block _ hgz hgj).trans HCQ.out⟩, by simp [intOf]; omega⟩
        · obtain rfl : j = tv.length := by omega
          clear hcq hbq cbq
          go_wp2_with fail
          refine bodyPost_end (v := .tuple #[]) (by simp [results, Tryd.results29, go_sem]) rfl ⟨rfl, J, hIj, hJ, hch⟩
    · intro x c' kl yd yp w2 cnt2 hkey hlk hv hat hrg2 hlt2 hg2 hs2 hen
      obtain ⟨x', ex, rfl, hwx⟩ := Maps.keyOf_int_inv Tryd.underlying48 hkey
      cases ex
      have hz2' : wr.heap.size ≤ w2.heap.size := hg2.size
      have hrow2 := hrow.kept hg2 (Or.inr (by simp [Value.ownBlock]; omega))
      have bx2 := (hg2.block w1.heap.size (by omega) (by simp; omega)).trans HBX.out
      have q2 : w2.cell? ⟨w1.heap.size, 0, none⟩ = some (.slice (some ⟨w.heap.size, 0, none⟩) ss.length tv.length) := cellOf bx2 0 _ rfl
      have HB2 : Hid _ := bx2
      have hbl2 : w1.heap.size < w2.heap.size := World.block_lt_of_cell? w2 _ q2
      clear hs2 bx2 qb fb
      go_wp2_with (at_builtin; go_loud (refine wpList_append_fits _ rfl _ _ 74 rfl w.heap.size 48 i0 1 Tryd.underlying74 hi hy1 w.heap.size ss.length tv.length _ rfl (hrow2.alloc _) ⟨w2.heap.size, 0, none⟩ 1 1 [.int .u32 x] rfl rfl (cell_one_new _ _ _) (by simp [Value.oneCell']) (by omega) ?_; intro w3 hown3 hg3; have bx3 := (hg3.block w1.heap.size (by simp; omega) (by simp; omega)).trans (((keep_box (A := []) (.cells #[.int .u32 x] 48)).block w1.heap.size hbl2 (by simp)).trans HB2.out); have q3 := cellOf bx3 0 _ rfl; have f3 := freeOf bx3 0; have HB3 : Hid _ := bx3; clear bx3 q2))
      have g4 := grown_set w3 ⟨w1.heap.size, 0, none⟩ (.slice (some ⟨w.heap.size, 0, none⟩) (ss.length + 1) tv.length)
      have hrg4 := (((hrg2.alloc (.cells #[.int .u32 x] 48)).kept hg3 (by simp; omega) (by simp; omega)).kept g4 (by simp; omega) (by simp; omega))
      have hz3 := hg3.size
      have hz4 := g4.size
      have k4 : Keep [] w (w3.setCell ⟨w1.heap.size, 0, none⟩ (.slice (some ⟨w.heap.size, 0, none⟩) (ss.length + 1) tv.length)) := (((hk.grown hg2 (by simp; omega)).alloc (.cells #[.int .u32 x] 48)).grown hg3 (by simp)).grown g4 (by simp; omega)
      have hb4 := heap_set (i := 0) HB3.out (.slice (some ⟨w.heap.size, 0, none⟩) (ss.length + 1) tv.length)
      simp at hz3
      refine ⟨⟨_, cnt2, ss ++ [x], hrg4, by simp; omega, by simpa using hb4, ?_, hC.step hlk, k4, by omega⟩, ?_⟩
      · have h := hown3.kept g4 (Or.inr (by simp [Value.ownBlock]; omega))
        simpa using h
      · rw [hrg4.left_eq, hrg.left_eq]; exact hlt2
end Go.Proofs.YtedconnhligkeaaDoor
