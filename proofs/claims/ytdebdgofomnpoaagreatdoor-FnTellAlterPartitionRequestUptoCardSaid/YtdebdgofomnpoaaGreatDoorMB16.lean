/-
  Tags.Each: the call that it is given is called for each tag, by rising numbers.
-/
import Derived.Test.YtdebdgofomnpoaaGreatDoorMB15
import Derived.Test.YtdebdgofomnpoaaGreatDoorMB6
import Derived.Test.YtdebdgofomnpoaaGreatDoorMB2
import Derived.Test.YtdebdgofomnpoaaGreatDoorMB3
import Derived.Test.YtdebdgofomnpoaaGreatDoorMB12
import Derived.Maps.OwnSet
import Derived.OwnWalk
import Derived.WalkSpells
import Derived.Shelf.Abstract
import Derived.Laws.IdiomStrings
import Derived.OrdersHeld
import Derived.Deep.RegionHeld
namespace Go.Proofs.YtdebdgofomnpoaaGreatDoor
open Go.ChangeShapes Go.WideShapes Go.ChangeAt Go.RowKit

/-- outside J everything is as it was -/
structure Chg (J : Nat → Prop) (w w' : World) : Prop where
  os : w'.os = w.os
  tape : w'.tape = w.tape
  output : w'.output = w.output
  size : w.heap.size ≤ w'.heap.size
  block : ∀ k, k < w.heap.size → ¬ J k → w'.heap[k]? = w.heap[k]?
theorem Chg.refl (J : Nat → Prop) (w : World) : Chg J w w := ⟨rfl, rfl, rfl, Nat.le_refl _, fun _ _ _ => rfl⟩
theorem Keep.chg {w w' : World} (h : Keep [] w w') (J : Nat → Prop) : Chg J w w' := ⟨h.os, h.tape, h.output, h.size, fun k hk _ => h.block k hk (by simp)⟩
theorem Chg.trans {J J1 J2 : Nat → Prop} {w w1 w2 : World} (h : Chg J1 w w1) (k : Chg J2 w1 w2) (h1 : ∀ j, J1 j → J j ∨ w.heap.size ≤ j) (h2 : ∀ j, J2 j → J j ∨ w.heap.size ≤ j) : Chg J w w2 :=
  ⟨k.os.trans h.os, k.tape.trans h.tape, k.output.trans h.output, Nat.le_trans h.size k.size, fun j hj hn =>
    (k.block j (Nat.lt_of_lt_of_le hj h.size) (fun e => by
      rcases h2 j e with e | e
      · exact hn e
      · omega)).trans (h.block j hj (fun e => by
      rcases h1 j e with e | e
      · exact hn e
      · omega))⟩

theorem grown_set (w : World) (p : Addr) (u : Value) : w.grownBy (w.setCell p u) (some p.block) := ⟨rfl, rfl, rfl, by simp [World.setCell], fun k hk hne => Below.heap_setCell _ _ _ _ (fun e => hne (by rw [e]))⟩
/-- what was met so far -/
def Coll (tv : List (Nat × Value)) (left : Lit → Bool) (ss : List Int) : Prop :=
  ss.Nodup ∧ (∀ x : Int, left (.int .u32 x) = true → Maps.has (tD tv) (.int .u32 x) = true) ∧ ∀ x : Int, x ∈ ss ↔ (Maps.has (tD tv) (.int .u32 x) = true ∧ left (.int .u32 x) = false)
theorem Coll.start (tv : List (Nat × Value)) : Coll tv (Maps.has (tD tv)) [] :=
  ⟨List.nodup_nil, fun _ h => h, fun x => by cases Maps.has (tD tv) (.int .u32 x) <;> simp⟩
theorem Coll.step {tv : List (Nat × Value)} {left : Lit → Bool} {ss : List Int} (h : Coll tv left ss) {x : Int} (hl : left (.int .u32 x) = true) : Coll tv (fun z => left z && !z.sameKey (.int .u32 x)) (ss ++ [x]) := by
  obtain ⟨h1, h2, h3⟩ := h
  refine ⟨?_, fun y hy => h2 y (by simp at hy; exact hy.1), fun y => ?_⟩
  · refine List.nodup_append.2 ⟨h1, by simp, fun a ha b hb => ?_⟩
    simp at hb
    subst hb
    rintro rfl
    have := ((h3 a).1 ha).2
    rw [hl] at this
    cases this
  · simp only [List.mem_append, List.mem_singleton, h3]
    by_cases e : y = x
    · subst e
      simp [Lit.sameKey, h2 y hl]
    · have : (Lit.int .u32 y).sameKey (.int .u32 x) = false := by simp [Lit.sameKey, e]
      simp [this, e]
theorem Coll.perm {tv : List (Nat × Value)} {left : Lit → Bool} {ss : List Int} (h : Coll tv left ss) (hr : Rising tv) (hl : ∀ kl, left kl = false) : ss.Perm (tv.map fun x => (x.1 : Int)) := by
  obtain ⟨h1, _, h3⟩ := h
  refine (List.perm_ext_iff_of_nodup h1 ?_).2 fun x => ?_
  · refine List.pairwise_map.2 (hr.imp fun {a b} hab => ?_)
    omega
  · rw [h3]
    simp only [hl, and_true, List.mem_map]
    constructor
    · intro hx
      obtain ⟨y, hy, e⟩ := tD_has hx
      exact ⟨y, hy, e⟩
    · rintro ⟨y, hy, rfl⟩
      exact tD_has_mem hy
theorem keys_lt {tv : List (Nat × Value)} (hr : Rising tv) : (tv.map fun x => (x.1 : Int)).Pairwise (· < ·) := List.pairwise_map.2 (hr.imp fun {a b} hab => by omega)

theorem info_n32 : (Tryz.prog.info? 64).map (fun i => (i.zero, i.size, i.bytes)) = some (some (.int .u32 0), 1, 4) := by kernel_rfl
theorem zero_sl : ∀ w, (zeroValue 22).run Tryz.prog w = .ok (.slice none 0 0) w := Tryz.zeroValue22
theorem tlook {tv : List (Nat × Value)} {n r : Nat} {w : World} (hown : w.ownsMap Tryz.prog 64 tR r n (tD tv)) (hr : Rising tv) (hlt : ∀ x ∈ tv, x.1 < 4294967296) {x : Nat × Value} (hx : x ∈ tv) :
    (Instr.lookup 105 (.map (some r)) (.int .u32 (x.1 : Int)) false).run Tryz.prog w = .ok x.2 w := by
  obtain ⟨v, ps, h1, h2⟩ := hown.lookup (Maps.int_keyed Tryz.underlying64) Tryz.underlying105 (zero_sl w) (zd := .held (.slice none 0 0)) (zp := []) rfl (Maps.keyOf_int_mk Tryz.underlying64 (wf_u32 (hlt x hx)))
  rw [tD_at hr hx] at h2
  simp only [tR, Option.some.injEq, Prod.mk.injEq, DataW.held.injEq] at h2
  rw [h1, h2.1]

set_option maxHeartbeats 1000000 in
set_option maxRecDepth 100000 in
theorem each_any {b i n fn : Nat} {v p : Value} {tv : List (Nat × Value)} {w : World} {c : Array Value} {t : TypeId} (hb : w.heap[b]? = some (.cells c t (0, 0))) (hc : c[i]? = some v) (hm : MO w v n tv) (hn : n ≤ 17179869184)
    (eg : ∀ args w, (callFunc fn args).run Tryz.prog w = .ok (.enter fn args) w)
    (I : Nat → (Nat → Prop) → World → Prop) (J0 : Nat → Prop) (hI : I 0 J0 w) (hJb : ¬ J0 b) (hJm : ∀ k ∈ mblk v, ¬ J0 k) (hJlt : ∀ k, J0 k → k < w.heap.size)
    (hkeep : ∀ d J W W', I d J W → Keep [] W W' → I d J W')
    (hstep : ∀ j (hj : j < tv.length) J W, I j J W → w.heap.size ≤ W.heap.size → Calls Tryz.prog fn #[.int .u32 (tv[j].1 : Int), tv[j].2, p] W fun e W' => e = .returned (.tuple #[]) ∧ ∃ J', I (j + 1) J' W' ∧ (∀ j, J' j → J j ∨ W.heap.size ≤ j) ∧ Chg J W W') :
    Calls Tryz.prog 146 #[.pointer (some ⟨b, i, none⟩), .func (.func fn) #[] #[p]] w fun e w' => e = .returned (.tuple #[]) ∧ ∃ J', I tv.length J' w' ∧ (∀ j, J' j → J0 j ∨ w.heap.size ≤ j) ∧ Chg J0 w w' := by
  have hbl : b < w.heap.size := (Array.getElem?_eq_some_iff.1 hb).1
  obtain ⟨hr, hlt, hcase⟩ := hm
  by_cases h0 : tv = []
  · subst h0
    have cb : w.cell? ⟨b, i, none⟩ = some v := cellOf hb i _ hc
    rcases hcase with ⟨rfl, _⟩ | ⟨r, rfl, hown⟩
    · have hlen := Maps.len_nil (w := w) Tryz.underlying105 3
      go_enter Tryz.func146, Tryz.ntmps146
      go_wp2_with fail
      refine bodyPost_ret (v := .tuple #[]) (by simp [results, Tryz.results146, go_sem]) rfl ⟨rfl, J0, hI, fun _ h => .inl h, Chg.refl _ _⟩
    · have hlen := hown.len Tryz.underlying105 3
      rw [tD_size] at hlen
      go_enter Tryz.func146, Tryz.ntmps146
      go_wp2_with fail
      refine bodyPost_ret (v := .tuple #[]) (by simp [results, Tryz.results146, go_sem]) rfl ⟨rfl, J0, hI, fun _ h => .inl h, Chg.refl _ _⟩
  rcases hcase with ⟨_, h⟩ | ⟨r, rfl, hown⟩
  · exact absurd h h0
  obtain ⟨i0, hi, hy0, hy1, hy2⟩ := info_parts info_n32
  have hpos : 0 < tv.length := List.length_pos_iff.2 h0
  have hsz : tv.length ≤ n := by
    obtain ⟨es, clock, _, _, h, e⟩ := hown
    have h2 := congrArg Maps.size e
    rw [tD_size] at h2
    simp [Maps.size, length_sorted] at h2
    omega
  have cb : w.cell? ⟨b, i, none⟩ = some (.map (some r)) := cellOf hb i _ hc
  have hlen := hown.len Tryz.underlying105 3
  rw [tD_size] at hlen
  have hrl := hown.lt
  go_enter Tryz.func146, Tryz.ntmps146
  go_wp2_with (first
    | (at_make; go_loud (refine wpList_make_own _ rfl _ _ 243 rfl w.heap.size 64 i0 (.int .u32 0) 1 Tryz.underlying243 hi hy0 hy1 _ _ _ tv.length rfl rfl rfl (by rw [hy2]; omega) (by unfold maxLen; omega) (Nat.le_refl _) ?_; intro w1 hrow1 hg1; have kg1 : Keep [] w w1 := (Keep.refl _ _).grown hg1 (by simp); have cb1 : (w1.alloc (.cells #[.slice (some ⟨w.heap.size, 0, none⟩) 0 tv.length] 243)).cell? ⟨b, i, none⟩ = some (.map (some r)) := ((kg1.alloc _).cell (p := ⟨b, i, none⟩) hbl (by simp)).trans cb))
    | (at_range; go_loud (refine wpList_range_own _ rfl _ 105 rfl 64 22 (Maps.int_keyed Tryz.underlying64) Tryz.underlying105 _ r n _ rfl ((hown.kept hg1 (by simp)).alloc _) ?_; intro w0 hrg0 hg0 hs0)))
  go_frame
  have k0 : Keep [] w w0 := (kg1.alloc _).grown hg0 (by simp)
  have hz1 : w.heap.size + 1 ≤ w1.heap.size := by
    rcases hrow1.2 with ⟨h, _⟩ | ⟨g, cap, cur, e, _, hb', _⟩
    · cases h
    · cases e
      have := (Array.getElem?_eq_some_iff.1 hb').1
      omega
  have hz0' : w0.heap.size = w1.heap.size + 2 := by simpa using hs0
  have hri1 : w1.heap.size < (w1.alloc (.cells #[.slice (some ⟨w.heap.size, 0, none⟩) 0 tv.length] 243)).heap.size := by simp
  have hri2 : (w1.alloc (.cells #[.slice (some ⟨w.heap.size, 0, none⟩) 0 tv.length] 243)).heap.size < w0.heap.size := by rw [hz0']; simp
  have hbox0 : w0.heap[w1.heap.size]? = some (.cells #[.slice (some ⟨w.heap.size, 0, none⟩) 0 tv.length] 243 (0, 0)) := (hg0.block _ (by simp) (by simp)).trans (heap_alloc_new w1 _)
  have hrow0 := (hrow1.alloc (.cells #[.slice (some ⟨w.heap.size, 0, none⟩) 0 tv.length] 243)).kept hg0 (Or.inr (by simp [Value.ownBlock]))
  rw [tD_size] at hrg0
  clear hs0 cb1 cb hlen hrow1
  generalize (w1.alloc (.cells #[.slice (some ⟨w.heap.size, 0, none⟩) 0 tv.length] 243)).heap.size = rI at *
  go_loopw [5] (fun _ wr => ∃ (left : Lit → Bool) (cnt : Nat) (ss : List Int), wr.ranges Tryz.prog 64 tR r rI n (tD tv) left cnt ∧ ss.length + cnt ≤ tv.length ∧
      wr.heap[w1.heap.size]? = some (.cells #[.slice (some ⟨w.heap.size, 0, none⟩) ss.length tv.length] 243 (0, 0)) ∧ wr.ownsRow w.heap.size 64 1 (.slice (some ⟨w.heap.size, 0, none⟩) ss.length tv.length) ss.length (ss.map (Value.int .u32)) ∧ Coll tv left ss ∧ Keep [] w wr ∧ w1.heap.size + 2 ≤ wr.heap.size)
    (fun _ wr => wr.rangeLeft r rI)
  case atStart => exact ⟨_, _, [], hrg0, by simp, hbox0, hrow0, Coll.start tv, k0, by omega⟩
  case round =>
    obtain ⟨left, cnt, ss, hrg, hcs, hbx, hrow, hC, hk, hzr⟩ := hrel
    have qb : wr.cell? ⟨w1.heap.size, 0, none⟩ = some (.slice (some ⟨w.heap.size, 0, none⟩) ss.length tv.length) := cellOf hbx 0 _ rfl
    have fb := freeOf hbx 0
    have HBX : Hid _ := hbx
    clear hbx hbox0
    go_wp2_with (first
      | (at_next; go_loud (refine wpList_next_ranges _ rfl _ rfl 64 (Maps.int_keyed Tryz.underlying64) tR (Value.int .u32) (fun v : Value => v) (fun key kl hkey => by obtain ⟨x, rfl, _⟩ := Maps.keyOf_int_inv Tryz.underlying64 hkey; exact ⟨x, rfl⟩) (fun v y _ => ⟨v, rfl⟩) r rI n _ _ _ rfl hrg ?_ ?_)))
    · intro hc0 hl0
      have hperm := hC.perm hr hl0
      have hK := keys_lt hr
      obtain ⟨cur, hcur, hcz, hct⟩ : ∃ cur, wr.heap[w.heap.size]? = some (.cells cur 64 (0, 0)) ∧ cur.size = tv.length ∧ cur.toList.take ss.length = ss.map (Value.int .u32) := by
        rcases hrow.2 with ⟨h, _⟩ | ⟨g, cap, cur, e, _, hb', _, _, h3, h4⟩
        · cases h
        · cases e
          exact ⟨cur, hb', by simpa using h3, by simpa using h4⟩
      have hsl : ss.length = tv.length := by have := hperm.length_eq; simpa using this
      have TS := tsort_any (tb := 243) hcur hct (by omega) HBX.out (by omega) (by omega) hK hperm
      rw [hsl] at TS qb hct
      clear hrow hcs
      have Q := fun w' (h : Keep [w.heap.size] wr w') => (h.cell (p := ⟨w1.heap.size, 0, none⟩) (World.block_lt_of_cell? wr _ qb) (by simp; omega)).trans qb
      have HQ : Hid _ := Q
      have HSL : Hid _ := hsl
      clear hcur Q hsl hct hperm hC
      go_wp2_with (go_at_call 228; go_loud (refine TS.mono ?_; rintro e ws ⟨rfl, cur', hcur', hct', hcz', ks⟩; have qs := HQ.out ws ks))
      have kS : Keep [] w ws := ((hk.weaken (B := [w.heap.size]) (by simp)).trans ks).fresh (by simp)
      have hgJ : ¬ J0 w.heap.size := fun h => by have := hJlt _ h; omega
      have hII := hkeep _ _ _ _ hI kS
      have HKEY : Hid _ := hct'
      have hce : ∀ j (hj : j < tv.length), cur'[j]? = some (.int .u32 (tv[j].1 : Int)) := fun j hj => by
        have e := congrArg (fun l => l[j]?) HKEY.out
        simp only [List.getElem?_take_of_lt hj, Array.getElem?_toList, List.map_map, List.getElem?_map, List.getElem?_eq_getElem hj, Option.map_some] at e
        exact e
      clear hct' qs qb fb hkeep TS
      go_loopw [39, 7] (fun k _ wq => ∃ (j : Nat) (J : Nat → Prop), k = .int .i64 (j : Int) ∧ j ≤ tv.length ∧ I j J wq ∧ (∀ x, J x → J0 x ∨ w.heap.size ≤ x) ∧ Chg J0 w wq ∧ ¬ J w.heap.size ∧ wq.heap[w.heap.size]? = some (.cells cur' 64 (0, 0))) (fun k _ _ => tv.length - (intOf k).toNat)
      case atStart => exact ⟨0, J0, rfl, Nat.zero_le _, hII, fun _ h => .inl h, kS.chg _, hgJ, hcur'⟩
      case round =>
        obtain ⟨j, J, rfl, hj, hIj, hJ, hch, hgj, hcq⟩ := hrel
        have hbq := (hch.block b hbl hJb).trans hb
        have cbq : _ := cellOf hbq i _ hc
        by_cases hlt2 : j < tv.length
        · have hmem : tv[j] ∈ tv := List.getElem_mem hlt2
          have hcj := cellOf hcq j _ (hce j hlt2)
          have hlook := tlook (w := _) (let ⟨es, clock, hb', h4⟩ := hown; ⟨es, clock, (hch.block r hrl (hJm r (by simp [mblk]))).trans hb', h4⟩) hr hlt hmem
          have HS := hstep j hlt2 J _ hIj hch.size
          have hzq := hch.size
          clear hmem hbq hcur'
          generalize hx : tv[j] = x at *
          obtain ⟨kx, vx⟩ := x
          clear hx
          simp only at hcj hlook HS
          have hgz := World.block_lt_of_cell? _ _ hcj
          have HCQ : Hid _ := hcq
          clear hcq
          go_wp2_with (go_at_fn fn; go_loud (refine HS.mono ?_; rintro e wz ⟨rfl, J', hI', hJ', hcz⟩))
          refine ⟨⟨j + 1, J', by go_num, by omega, hI', fun y h => (hJ' y h).elim (hJ y) (fun h => .inr (by omega)), hch.trans hcz (fun _ h => .inl h) hJ, fun h => (hJ' _ h).elim hgj (fun h => by omega), (hcz.block _ hgz hgj).trans HCQ.out⟩, by simp [intOf]; omega⟩
        · obtain rfl : j = tv.length := by omega
          clear hcq hbq cbq
          go_wp2_with fail
          refine bodyPost_end (v := .tuple #[]) (by simp [results, Tryz.results146, go_sem]) rfl ⟨rfl, J, hIj, hJ, hch⟩
    · intro x c' kl yd yp w2 cnt2 hkey hlk hv hat hrg2 hlt2 hg2 hs2 hen
      obtain ⟨x', ex, rfl, hwx⟩ := Maps.keyOf_int_inv Tryz.underlying64 hkey
      cases ex
      have hz2' : wr.heap.size ≤ w2.heap.size := hg2.size
      have hrow2 := hrow.kept hg2 (Or.inr (by simp [Value.ownBlock]; omega))
      have bx2 := (hg2.block w1.heap.size (by omega) (by simp; omega)).trans HBX.out
      have q2 : w2.cell? ⟨w1.heap.size, 0, none⟩ = some (.slice (some ⟨w.heap.size, 0, none⟩) ss.length tv.length) := cellOf bx2 0 _ rfl
      have HB2 : Hid _ := bx2
      have hbl2 : w1.heap.size < w2.heap.size := World.block_lt_of_cell? w2 _ q2
      clear hs2 bx2 qb fb
      go_wp2_with (at_builtin; go_loud (refine wpList_append_fits _ rfl _ _ 243 rfl w.heap.size 64 i0 1 Tryz.underlying243 hi hy1 w.heap.size ss.length tv.length _ rfl (hrow2.alloc _) ⟨w2.heap.size, 0, none⟩ 1 1 [.int .u32 x] rfl rfl (cell_one_new _ _ _) (by simp [Value.oneCell']) (by omega) ?_; intro w3 hown3 hg3; have bx3 := (hg3.block w1.heap.size (by simp; omega) (by simp; omega)).trans (((keep_box (A := []) (.cells #[.int .u32 x] 64)).block w1.heap.size hbl2 (by simp)).trans HB2.out); have q3 := cellOf bx3 0 _ rfl; have f3 := freeOf bx3 0; have HB3 : Hid _ := bx3; clear bx3 q2))
      have g4 := grown_set w3 ⟨w1.heap.size, 0, none⟩ (.slice (some ⟨w.heap.size, 0, none⟩) (ss.length + 1) tv.length)
      have hrg4 := (((hrg2.alloc (.cells #[.int .u32 x] 64)).kept hg3 (by simp; omega) (by simp; omega)).kept g4 (by simp; omega) (by simp; omega))
      have hz3 := hg3.size
      have hz4 := g4.size
      have k4 : Keep [] w (w3.setCell ⟨w1.heap.size, 0, none⟩ (.slice (some ⟨w.heap.size, 0, none⟩) (ss.length + 1) tv.length)) := (((hk.grown hg2 (by simp; omega)).alloc (.cells #[.int .u32 x] 64)).grown hg3 (by simp)).grown g4 (by simp; omega)
      have hb4 := heap_set (i := 0) HB3.out (.slice (some ⟨w.heap.size, 0, none⟩) (ss.length + 1) tv.length)
      simp at hz3
      refine ⟨⟨_, cnt2, ss ++ [x], hrg4, by simp; omega, by simpa using hb4, ?_, hC.step hlk, k4, by omega⟩, ?_⟩
      · have h := hown3.kept g4 (Or.inr (by simp [Value.ownBlock]; omega))
        simpa using h
      · rw [hrg4.left_eq, hrg.left_eq]; exact hlt2
end Go.Proofs.YtdebdgofomnpoaaGreatDoor
/-
  impl.sorted over tags that already lie by rising numbers: nothing turns.
-/
namespace Go.Proofs.YtdebdgofomnpoaaGreatDoor
open Go.ChangeShapes Go.WideShapes Go.ChangeAt Go.RowKit

set_option maxHeartbeats 400000 in
set_option maxRecDepth 100000 in
theorem sorted_any {G : Nat → Prop} {u : List Tg} {v : Value} {w : World} (h : HGs w G v u) (hG : There G w) (hr : Rising u) :
    Calls Tryz.prog 148 #[v] w fun e w' => e = .returned (.tuple #[]) ∧ Keep [] w w' := by
  obtain ⟨ao, cap, rfl, hcap⟩ : ∃ ao cap, v = .slice ao u.length cap ∧ u.length ≤ cap := by
    obtain ⟨vs, h1, _, _, _, ao, cap, e, h4, _⟩ := h
    exact ⟨ao, cap, e, h4⟩
  have hbd := h.bd
  go_enter Tryz.func148, Tryz.ntmps148
  go_wp2_with fail
  go_loopw [6, 2, 3] (fun k _ _ wr => ∃ j : Nat, k = .int .i64 (j : Int) ∧ j ≤ u.length ∧ Keep [] w wr) (fun k _ _ _ => u.length - (intOf k).toNat)
  case atStart => exact ⟨0, rfl, Nat.zero_le _, Keep.refl _ _⟩
  case round =>
    obtain ⟨j, rfl, hj, hk⟩ := hrel
    have hw := h.keepF (w' := wr) (G := G) (hG.same hk) (fun _ h => h)
    by_cases hlt : j < u.length
    · cases j with
      | zero =>
        go_wp2_with fail
        refine wp_loop_rounds 1 ?_
        rw [rounds_succ]
        go_wp2_with fail
        go_region
        go_wp2_with fail
        go_roundw
        case rel => exact ⟨1, by go_num, by omega, hk.drew⟩
        case measure => simp [intOf]; omega
      | succ m =>
        obtain ⟨bx, ox, av, pv, hv, hGx, c0, c1, _⟩ := hw.elem hlt
        cases hv
        obtain ⟨_, _, av', pv', hv, _, d0, d1, _⟩ := hw.elem (i := m) (by omega)
        cases hv
        have hle : u[m].1 < u[m + 1].1 := List.pairwise_iff_getElem.1 hr m (m + 1) (by omega) hlt (by omega)
        generalize hx : u[m + 1].1 = x1 at *
        generalize hy : u[m].1 = x0 at *
        go_wp2_with fail
        refine wp_loop_rounds 1 ?_
        rw [rounds_succ]
        go_wp2_with fail
        go_region
        go_wp2_with fail
        go_roundw
        case rel => exact ⟨m + 2, by go_num, by omega, hk.drew⟩
        case measure => simp [intOf]; omega
    · go_wp2_with fail
      refine bodyPost_end (v := .tuple #[]) (by simp [results, Tryz.results148, go_sem]) rfl ⟨rfl, hk⟩
end Go.Proofs.YtdebdgofomnpoaaGreatDoor
/-
  TELLING A PART: what the call that Tags.Each makes for each tag does to the tree that is being made.
-/
namespace Go.Proofs.YtdebdgofomnpoaaGreatDoor
open Go.ChangeShapes Go.WideShapes Go.ChangeAt Go.RowKit

theorem info_ig : (Tryz.prog.info? 69).map (fun i => (i.size, i.bytes)) = some (2, 32) := by kernel_rfl
theorem zero_ig : (Tryz.prog.info? 69).bind (fun i => i.zero) = some (.agg #[.int .u32 0, .slice none 0 0]) := by kernel_rfl
/-- the tree that is being made: its tags so far -/
def TSt (W0 : World) (tb : Nat) (n s nul l : Value) (d : List Tg) (J : Nat → Prop) (W : World) : Prop :=
  ∃ u, W.heap[tb]? = some (.cells #[n, s, nul, l, u] 37 (0, 0)) ∧ OG W W0.heap.size 69 (fun k => W0.heap.size ≤ k ∧ k < W.heap.size) u d ∧ (∀ k, J k ↔ (k = tb ∨ u.ownBlock = some k)) ∧
    W0.heap.size ≤ W.heap.size ∧ (∀ k, k < W0.heap.size → k ≠ tb → W.heap[k]? = W0.heap[k]?)
theorem TSt.keep {W0 W W' : World} {tb : Nat} {n s nul l : Value} {d : List Tg} {J : Nat → Prop} (h : TSt W0 tb n s nul l d J W) (hk : Keep [] W W') : TSt W0 tb n s nul l d J W' := by
  obtain ⟨u, h1, h2, h3, h4, h5⟩ := h
  have hs := hk.size
  refine ⟨u, (hk.block _ (Array.getElem?_eq_some_iff.1 h1).1 (by simp)).trans h1, h2.keepF (fun k hk' => hk.block k hk'.2 (by simp)) (fun k hk' => ⟨hk'.1, by omega⟩) (fun k e => ?_), h3, by omega, fun k hk' hne => (hk.block k (by omega) (by simp)).trans (h5 k hk' hne)⟩
  obtain ⟨vs, _, _, _, _, hrow⟩ := h2
  exact hk.block k (hrow.lt k e).2 (by simp)
theorem TSt.start {W0 : World} {tb : Nat} {n s nul l : Value} (h : W0.heap[tb]? = some (.cells #[n, s, nul, l, .slice none 0 0] 37 (0, 0))) : TSt W0 tb n s nul l [] (fun k => k = tb) W0 :=
  ⟨_, h, OG.nil _ _ _ _, by simp [Value.ownBlock], Nat.le_refl _, fun _ _ _ => rfl⟩
/-- one tag more: W2 is W and new blocks, W3 is it with the grown row -/
theorem TSt.push {W0 W W2 W3 : World} {tb g cap : Nat} {n s nul l u vx : Value} {d : List Tg} {J : Nat → Prop} {x : Tg} {cs : List Value}
    (htb : tb < W0.heap.size) (hW : W0.heap.size ≤ W.heap.size) (h5 : ∀ k, k < W0.heap.size → k ≠ tb → W.heap[k]? = W0.heap[k]?) (h1 : W.heap[tb]? = some (.cells #[n, s, nul, l, u] 37 (0, 0))) (hJ : ∀ k, J k ↔ (k = tb ∨ u.ownBlock = some k)) (hu : ∀ k, u.ownBlock = some k → W0.heap.size ≤ k ∧ k < W.heap.size)
    (k2 : Keep [] W W2) (e1 : cs.length = d.length) (e2 : ∀ i (a : i < d.length) (b : i < cs.length), RB W2 (Off (fun k => W0.heap.size ≤ k ∧ k < W2.heap.size) u) cs[i] d[i].2) (e3 : ∀ y ∈ d, y.1 < 4294967296 ∧ y.2.length ≤ 9223372036854775807)
    (hx : RB W2 (fun k => W.heap.size ≤ k ∧ k < W2.heap.size) vx x.2) (hx1 : x.1 < 4294967296 ∧ x.2.length ≤ 9223372036854775807) (hl : d.length + 1 ≤ 1099511627776)
    (hown : W3.ownsRow W0.heap.size 69 2 (.slice (some ⟨g, 0, none⟩) (d.length + 1) cap) (d.length + 1) (((d.zip cs).map fun x => [Value.int .u32 (x.1.1 : Int), x.2]).flatten ++ [.int .u32 (x.1 : Int), vx])) (hgr : W2.grownBy W3 u.ownBlock) (hat : u.ownBlock = some g ∨ g = W2.heap.size) :
    ∃ J', TSt W0 tb n s nul l (d ++ [x]) J' (W3.setCell ⟨tb, 4, none⟩ (.slice (some ⟨g, 0, none⟩) (d.length + 1) cap)) ∧ (∀ j, J' j → J j ∨ W.heap.size ≤ j) ∧ Chg J W (W3.setCell ⟨tb, 4, none⟩ (.slice (some ⟨g, 0, none⟩) (d.length + 1) cap)) := by
  have hz2 := k2.size
  have hz3 := hgr.size
  have P := OG.push (w := W2) (w' := W3) (B := W0.heap.size) (E := 69) (G := fun k => W0.heap.size ≤ k ∧ k < W2.heap.size) (v := u) (x := x) (vx := vx) (g := g) (cap := cap) e1 e2 e3
    (hx.keepF (fun _ _ => rfl) (fun k hk => ⟨⟨by omega, hk.2⟩, fun e => by have := hu k e.symm; omega⟩)) hx1 (fun k hk => hk.2) hl hown hgr (hat.imp id (fun h => by omega))
  have hb2 := (k2.block tb (by omega) (by simp)).trans h1
  have hb3 := (hgr.block tb (by omega) (fun e => by have := hu tb e.symm; omega)).trans hb2
  have hb4 := heap_set (i := 4) hb3 (.slice (some ⟨g, 0, none⟩) (d.length + 1) cap)
  have hz4 : (W3.setCell ⟨tb, 4, none⟩ (.slice (some ⟨g, 0, none⟩) (d.length + 1) cap)).heap.size = W3.heap.size := by simp [World.setCell]
  have hs : ∀ k, k ≠ tb → (W3.setCell ⟨tb, 4, none⟩ (.slice (some ⟨g, 0, none⟩) (d.length + 1) cap)).heap[k]? = W3.heap[k]? := fun k hk => Below.heap_setCell _ _ _ _ (fun e => hk (by simpa using e))
  have hgl := (hown.lt g rfl)
  refine ⟨fun k => k = tb ∨ k = g, ⟨_, hb4, P.keepF (fun k hk => hs k (by have := hk.1; omega)) (fun k hk => ⟨hk.1, by omega⟩) (fun k e => hs k (by have := (hown.lt k e).1; omega)), fun k => by simp [Value.ownBlock, eq_comm], by omega, fun k hk hne => ?_⟩, fun j hj => ?_, ?_⟩
  · rw [hs k hne, hgr.block k (by omega) (fun e => by have := hu k e.symm; omega), k2.block k (by omega) (by simp)]
    exact h5 k hk hne
  · rcases hj with rfl | rfl
    · exact .inl ((hJ _).2 (.inl rfl))
    · rcases hat with h | h
      · exact .inl ((hJ _).2 (.inr h))
      · exact .inr (by omega)
  · refine ⟨hgr.os.trans k2.os, hgr.tape.trans k2.tape, hgr.output.trans k2.output, by omega, fun k hk hn => ?_⟩
    rw [hs k (fun e => hn ((hJ k).2 (.inl e))), hgr.block k (by omega) (fun e => hn ((hJ k).2 (.inr e.symm))), k2.block k hk (by simp)]
theorem Chg.keep1 {J : Nat → Prop} {w w' : World} {A : List Nat} (h : Chg J w w') (hA : ∀ k, J k → k ∈ A) : Keep A w w' := ⟨h.os, h.tape, h.output, h.size, fun k hk hn => h.block k hk (fun e => hn (hA k e))⟩
theorem MP.rising {w : World} {G : Nat → Prop} {v : Value} {l : List Tg} (h : MP w G v l) : Rising l ∧ ∀ x ∈ l, x.1 < 4294967296 := by
  obtain ⟨n, m, _, ⟨h1, h2, _⟩, _, rfl, _⟩ := h
  refine ⟨?_, fun x hx => ?_⟩
  · unfold Rising at *
    rw [List.pairwise_map] at h1 ⊢
    exact h1
  · obtain ⟨y, hy, rfl⟩ := List.mem_map.1 hx
    exact h2 _ (List.mem_map.2 ⟨y, hy, rfl⟩)
set_option maxRecDepth 100000 in
theorem tell_each {Wn : World} {tb b i fn : Nat} {n s nul l tv : Value} {c : Array Value} {t : TypeId} {G : Nat → Prop} {tags : List Tg} (h2 : Wn.heap[tb]? = some (.cells #[n, s, nul, l, .slice none 0 0] 37 (0, 0))) (hb : Wn.heap[b]? = some (.cells c t (0, 0))) (hc : c[i]? = some tv)
    (hmp : MP Wn G tv tags) (hG : There G Wn) (hbt : b ≠ tb) (hGt : ¬ G tb) (ht1 : ∀ x ∈ tags, x.2.length ≤ 1000000) (ht2 : tags.length ≤ 1000000) (eg : ∀ args w, (callFunc fn args).run Tryz.prog w = .ok (.enter fn args) w)
    (TAG : ∀ {W : World} {d : List Tg} {J : Nat → Prop} {key : Nat} {x : Value} {val : Bs}, TSt Wn tb n s nul l d J W → RB W G x val → key < 4294967296 → val.length ≤ 1000000 → d.length ≤ 1000000000000 → Calls Tryz.prog fn #[.int .u32 (key : Int), x, .pointer (some ⟨tb, 0, none⟩)] W fun e W' => e = .returned (.tuple #[]) ∧ ∃ J', TSt Wn tb n s nul l (d ++ [(key, val)]) J' W' ∧ (∀ j, J' j → J j ∨ W.heap.size ≤ j) ∧ Chg J W W') :
    Calls Tryz.prog 146 #[.pointer (some ⟨b, i, none⟩), .func (.func fn) #[] #[.pointer (some ⟨tb, 0, none⟩)]] Wn fun e W' => e = .returned (.tuple #[]) ∧ ∃ u, W'.heap[tb]? = some (.cells #[n, s, nul, l, u] 37 (0, 0)) ∧ OG W' Wn.heap.size 69 (fun k => Wn.heap.size ≤ k ∧ k < W'.heap.size) u tags ∧ Keep [tb] Wn W' := by
  obtain ⟨nn, m, hnn, hmo, hblk, rfl, hrb⟩ := hmp
  have htl : tb < Wn.heap.size := (Array.getElem?_eq_some_iff.1 h2).1
  have E := each_any hb hc hmo (by omega) eg (I := fun j J W => TSt Wn tb n s nul l ((m.take j).map fun x => (x.1, x.2.2)) J W) (J0 := fun k => k = tb) (p := .pointer (some ⟨tb, 0, none⟩)) (by simpa using TSt.start h2) hbt (fun k hk e => hGt (e ▸ hblk k hk)) (fun k hk => by rw [hk]; exact htl)
    (fun _ _ _ _ h k => h.keep k) (fun j hj J W h hz => by
      have hj' : j < m.length := by simpa using hj
      have hmem : m[j] ∈ m := List.getElem_mem hj'
      have h' := h
      obtain ⟨_, _, _, _, _, h5⟩ := h'
      have hR : RB W G m[j].2.1 m[j].2.2 := (hrb _ hmem).keepF (fun k hk => h5 k (hG k hk) (fun e => hGt (e ▸ hk))) (fun _ h => h)
      have T := TAG h hR (hmo.2.1 _ (List.mem_map.2 ⟨_, hmem, rfl⟩)) (ht1 _ (List.mem_map.2 ⟨_, hmem, rfl⟩)) (by simp at ht2 ⊢; omega)
      have e : ((m.take j).map fun x => (x.1, x.2.2)) ++ [(m[j].1, m[j].2.2)] = (m.take (j + 1)).map fun x => (x.1, x.2.2) := by
        rw [List.take_succ_eq_append_getElem hj', List.map_append]
        rfl
      rw [e] at T
      simp only [List.getElem_map]
      exact T)
  refine E.mono ?_
  rintro e W' ⟨he, J', ⟨u, q1, q2, -, -, -⟩, -, hch⟩
  rw [List.length_map, List.take_length] at q2
  exact ⟨he, u, q1, q2, hch.keep1 (by simp)⟩
end Go.Proofs.YtdebdgofomnpoaaGreatDoor
/-
  Lists of trees in a block of their own; five cells set at once.
-/
namespace Go.Proofs.YtdebdgofomnpoaaGreatDoor
open Go.ChangeShapes Go.WideShapes Go.ChangeAt Go.RowKit

/-- trees that lie in a block of their own -/
theorem HTs.block {w : World} {G : Nat → Prop} {b n : Nat} {l : List T} {cs : List (List Value)} {arr : Array Value} {t : TypeId} {z : Nat × Nat} (h : w.heap[b]? = some (.cells arr t z)) (ha : arr.toList = cs.flatten) (hG : G b) (hn : n = l.length) (h1 : cs.length = l.length) (h2 : ∀ i (a : i < l.length) (c : i < cs.length), HT w G l[i] cs[i]) (h3 : l.length ≤ 1099511627776) :
    HTs w G (.slice (some ⟨b, 0, none⟩) n n) l := by
  subst hn
  refine ⟨cs, h1, h2, Nat.le_trans h3 (by decide), _, _, by rw [h1], by omega, (fun h => by cases h), fun a ha' => ?_⟩
  cases ha'
  refine ⟨fun _ => rfl, fun i hi => ⟨hG, ?_⟩⟩
  have e : cs.flatten[i]? = some cs.flatten[i] := List.getElem?_eq_getElem hi
  rw [← e, ← ha]
  simp [World.cell?, h]
theorem set5 {w : World} {b o : Nat} {c : Array Value} {t : TypeId} {z0 : Nat × Nat} {z s n l u : Value} (h : w.heap[b]? = some (.cells c t z0)) :
    (((((w.setCell ⟨b, o, none⟩ z).setCell ⟨b, o + 1, none⟩ s).setCell ⟨b, o + 2, none⟩ n).setCell ⟨b, o + 3, none⟩ l).setCell ⟨b, o + 4, none⟩ u).heap[b]? = some (.cells (((((c.setIfInBounds o z).setIfInBounds (o + 1) s).setIfInBounds (o + 2) n).setIfInBounds (o + 3) l).setIfInBounds (o + 4) u) t z0) ∧
    Keep [b] w (((((w.setCell ⟨b, o, none⟩ z).setCell ⟨b, o + 1, none⟩ s).setCell ⟨b, o + 2, none⟩ n).setCell ⟨b, o + 3, none⟩ l).setCell ⟨b, o + 4, none⟩ u) :=
  ⟨heap_set (heap_set (heap_set (heap_set (heap_set h z) s) n) l) u, (((((Keep.refl _ _).setCell (.inl (by simp)) _).setCell (.inl (by simp)) _).setCell (.inl (by simp)) _).setCell (.inl (by simp)) _).setCell (.inl (by simp)) _⟩
end Go.Proofs.YtdebdgofomnpoaaGreatDoor
/-
  impl.textTree; octets of a text.
-/
namespace Go.Proofs.YtdebdgofomnpoaaGreatDoor
open Go.ChangeShapes Go.WideShapes Go.ChangeAt Go.RowKit

theorem bytes_rb (w : World) (l : Bs) (cap : Nat) (e : TypeId) (fr : Nat × Nat) (hc : l.length ≤ cap) : RB (w.drew.alloc (.cells (bytesRow ⟨l.toArray⟩ cap) e fr)) (fun k => k = w.heap.size) (.slice (some ⟨w.heap.size, 0, none⟩) l.length cap) l := by
  refine ⟨_, cap, rfl, hc, (fun h => by cases h), fun a ha => ?_⟩
  cases ha
  refine ⟨fun _ => rfl, fun i hi => ⟨rfl, ?_⟩⟩
  have hb : (w.drew.alloc (.cells (bytesRow ⟨l.toArray⟩ cap) e fr)).heap[w.heap.size]? = some (.cells (bytesRow ⟨l.toArray⟩ cap) e fr) := by
    show (w.heap.push _)[w.heap.size]? = _
    simp
  have hi' : i < (⟨l.toArray⟩ : ByteArray).data.size := by simpa using hi
  have h := bytesRow_at ⟨l.toArray⟩ cap i hi'
  simp only [World.cell?, hb, Nat.zero_add]
  simpa [bv] using h
set_option maxHeartbeats 800000 in
set_option maxRecDepth 100000 in
theorem text_any {G : Nat → Prop} {v : Value} {o : Option Bs} {w : World} (h : PS w G v o) (hl : ∀ x, o = some x → x.length ≤ 1000000) :
    Calls Tryz.prog 179 #[v] w fun e w' => ∃ c, e = .returned (.agg c.toArray) ∧ HT w' (fun k => w.heap.size ≤ k ∧ k < w'.heap.size) (nstrT o) c ∧ Keep [] w w' := by
  rcases h with ⟨rfl, rfl⟩ | ⟨k, l, rfl, rfl, hG, hk⟩
  · go_enter Tryz.func179, Tryz.ntmps179
    go_wp2_with fail
    refine bodyPost_ret (v := .agg #[.int .i64 0, .slice none 0 0, .bool true, .slice none 0 0, .slice none 0 0]) (by simp [results, Tryz.results179, go_sem]) rfl ⟨[.int .i64 0, .slice none 0 0, .bool true, .slice none 0 0, .slice none 0 0], rfl, ?_, keep_box _⟩
    exact HT.of 0 [] true [] [] (RB.nil _ _) (HTs.nil _ _) (HGs.nil _ _) (by decide) (by decide) (by decide) (by decide)
  · have hlen := hl l rfl
    have ck : w.cell? ⟨k, 0, none⟩ = some (.string ⟨l.toArray⟩) := cellOf hk 0 _ rfl
    have hkl : k < w.heap.size := (Array.getElem?_eq_some_iff.1 hk).1
    have hcv := fun w => run_bytes_of_string (P := Tryz.prog) w 9 22 5 ⟨l.toArray⟩ Tryz.underlying9 Tryz.underlying22 Tryz.underlying5
    go_enter Tryz.func179, Tryz.ntmps179
    go_wp2_with fail
    have hcap := grownCap_ge (w.alloc (.cells #[.int .i64 0, .slice none 0 0, .bool false, .slice none 0 0, .slice none 0 0] 37)) l.length 0 5
    generalize grownCap (w.alloc (.cells #[.int .i64 0, .slice none 0 0, .bool false, .slice none 0 0, .slice none 0 0] 37)) l.length 0 5 = cap at *
    refine bodyPost_ret (v := .agg #[.int .i64 0, .slice (some ⟨w.heap.size + 1, 0, none⟩) l.length cap, .bool false, .slice none 0 0, .slice none 0 0]) (by simp [results, Tryz.results179, go_sem]) rfl ⟨[.int .i64 0, .slice (some ⟨w.heap.size + 1, 0, none⟩) l.length cap, .bool false, .slice none 0 0, .slice none 0 0], rfl, ?_, ((keep_box _).alloc _).drew⟩
    refine HT.of 0 l false [] [] ?_ (HTs.nil _ _) (HGs.nil _ _) (by decide) (by decide) (by omega) (by decide)
    have h := bytes_rb (w.alloc (.cells #[.int .i64 0, .slice (some ⟨w.heap.size + 1, 0, none⟩) l.length cap, .bool false, .slice none 0 0, .slice none 0 0] 37)) l cap 5 ((bytesRow ⟨l.toArray⟩ cap).size, (bytesRow ⟨l.toArray⟩ cap).size + 1) hcap
    simp only [World.size_alloc] at h
    exact h.keepF (fun k hk => rfl) (fun k hk => by subst hk; simp)
theorem text_body : Tryz.f179.body.isNone = false := by kernel_rfl
theorem text_name : (Tryz.f179.name == "runtime.NumGoroutine") = false := by kernel_rfl
end Go.Proofs.YtdebdgofomnpoaaGreatDoor
/-
  impl.octetsTree.
-/
namespace Go.Proofs.YtdebdgofomnpoaaGreatDoor
open Go.ChangeShapes Go.WideShapes Go.ChangeAt Go.RowKit

theorem oct_eq0 : ∀ u, (Sem.run Tryz.prog (binOp .eql 22 (.slice none 0 0) (.slice none 0 0)) u) = .ok (.bool true) u := fun u => Lib.run_eql_slice_nil u 22 5 none 0 0 0 0 Tryz.underlying22
theorem oct_eq1 (a : Addr) (n cap : Nat) : ∀ u, (Sem.run Tryz.prog (binOp .eql 22 (.slice (some a) n cap) (.slice none 0 0)) u) = .ok (.bool false) u := fun u => Lib.run_eql_slice_nil u 22 5 (some a) n cap 0 0 Tryz.underlying22
theorem oct_body : Tryz.f281.body.isNone = false := by kernel_rfl
theorem oct_name : (Tryz.f281.name == "runtime.NumGoroutine") = false := by kernel_rfl
set_option maxHeartbeats 800000 in
set_option maxRecDepth 100000 in
theorem oct_any {G : Nat → Prop} {v : Value} {o : Option Bs} {w : World} (h : OS w G v o) (hG : There G w) (hl : ∀ x, o = some x → x.length ≤ 1000000) :
    Calls Tryz.prog 281 #[v] w fun e w' => ∃ c, e = .returned (.agg c.toArray) ∧ HT w' (fun k => w.heap.size ≤ k ∧ k < w'.heap.size) (octT o) c ∧ Keep [] w w' := by
  obtain ⟨hb, hn⟩ := h
  obtain ⟨ao, cap, rfl⟩ := RS.shape hb
  cases ao with
  | none =>
    obtain ⟨hl0, rfl⟩ : (o.getD []).length = 0 ∧ cap = 0 := by
      obtain ⟨_, _, e, _, h2, _⟩ := hb
      cases e
      exact ⟨(h2 rfl).1, (h2 rfl).2.1⟩
    have ho : o = none := hn.1 (by rw [hl0])
    subst ho
    clear hl0
    have heq : ∀ u, (Sem.run Tryz.prog (binOp .eql 22 (.slice none 0 0) (.slice none 0 0)) u) = .ok (.bool true) u := oct_eq0
    go_enter Tryz.func281, Tryz.ntmps281
    go_wp2_with (at_builtin; go_loud (refine app_ob rfl (.const (.slice none 0 0)) (.tmp 3) rfl (w.heap.size + 1) (.slice none 0 0) [] rfl (OB.nil _ _) _ [] (fun _ => True) rfl (RB.nil _ _) (by simp) (by simp) ?_; intro v2 w2 hob hgr; obtain ⟨a2, cp, rfl⟩ := hob.len; have k2 : Keep [] w w2 := (keep_box _).grown hgr (by simp [Value.ownBlock]); have hz2 : w.heap.size + 1 ≤ w2.heap.size := (by have := hgr.size; simpa using this); have r2 := (hgr.block w.heap.size (by simp) (by simp [Value.ownBlock])).trans (heap_alloc_new w (.cells #[.int .i64 0, .slice none 0 0, .bool false, .slice none 0 0, .slice none 0 0] 37)); have p0 : w2.cell? ⟨w.heap.size, 0, none⟩ = some (.int .i64 0) := cellOf r2 0 _ rfl; have pf0 := freeOf r2 0; have p1 : w2.cell? ⟨w.heap.size, 1, none⟩ = some (.slice none 0 0) := cellOf r2 1 _ rfl; have pf1 := freeOf r2 1; have p2 : w2.cell? ⟨w.heap.size, 2, none⟩ = some (.bool false) := cellOf r2 2 _ rfl; have pf2 := freeOf r2 2; have p3 : w2.cell? ⟨w.heap.size, 3, none⟩ = some (.slice none 0 0) := cellOf r2 3 _ rfl; have pf3 := freeOf r2 3; have p4 : w2.cell? ⟨w.heap.size, 4, none⟩ = some (.slice none 0 0) := cellOf r2 4 _ rfl; have pf4 := freeOf r2 4; have R2 : Hid _ := r2; clear r2))
    have hr : (((((w2.setCell ⟨w.heap.size, 0, none⟩ (.int .i64 0)).setCell ⟨w.heap.size, 1, none⟩ (.slice a2 0 cp)).setCell ⟨w.heap.size, 2, none⟩ (.bool true)).setCell ⟨w.heap.size, 3, none⟩ (.slice none 0 0)).setCell ⟨w.heap.size, 4, none⟩ (.slice none 0 0)).heap[w.heap.size]? = some (.cells #[.int .i64 0, .slice a2 0 cp, .bool true, .slice none 0 0, .slice none 0 0] 37 (0, 0)) := (set5 (o := 0) R2.out).1
    have kr : Keep [w.heap.size] w2 (((((w2.setCell ⟨w.heap.size, 0, none⟩ (.int .i64 0)).setCell ⟨w.heap.size, 1, none⟩ (.slice a2 0 cp)).setCell ⟨w.heap.size, 2, none⟩ (.bool true)).setCell ⟨w.heap.size, 3, none⟩ (.slice none 0 0)).setCell ⟨w.heap.size, 4, none⟩ (.slice none 0 0)) := (set5 (o := 0) R2.out).2
    clear p0 pf0 p1 pf1 p2 pf2 p3 pf3 p4 pf4
    generalize (((((w2.setCell ⟨w.heap.size, 0, none⟩ (.int .i64 0)).setCell ⟨w.heap.size, 1, none⟩ (.slice a2 0 cp)).setCell ⟨w.heap.size, 2, none⟩ (.bool true)).setCell ⟨w.heap.size, 3, none⟩ (.slice none 0 0)).setCell ⟨w.heap.size, 4, none⟩ (.slice none 0 0)) = W7 at *
    have r0 : W7.cell? ⟨w.heap.size, 0, none⟩ = some (.int .i64 0) := cellOf hr 0 _ rfl
    have r1 : W7.cell? ⟨w.heap.size, 1, none⟩ = some (.slice a2 0 cp) := cellOf hr 1 _ rfl
    have r2 : W7.cell? ⟨w.heap.size, 2, none⟩ = some (.bool true) := cellOf hr 2 _ rfl
    have r3 : W7.cell? ⟨w.heap.size, 3, none⟩ = some (.slice none 0 0) := cellOf hr 3 _ rfl
    have r4 : W7.cell? ⟨w.heap.size, 4, none⟩ = some (.slice none 0 0) := cellOf hr 4 _ rfl
    have hzr := kr.size
    refine bodyPost_ret (v := .agg #[.int .i64 0, .slice a2 0 cp, .bool true, .slice none 0 0, .slice none 0 0]) (by simp [results, Tryz.results281, go_sem, r0, r1, r2, r3, r4]) rfl ⟨[.int .i64 0, .slice a2 0 cp, .bool true, .slice none 0 0, .slice none 0 0], rfl, ?_, ((k2.weaken (by simp)).trans kr).fresh (by simp)⟩
    have hrb : RB w2 (fun k => w.heap.size + 1 ≤ k ∧ k < w2.heap.size) (.slice a2 0 cp) [] := hob.rb
    exact HT.of 0 [] true [] [] (hrb.keepF (fun k hk => kr.block k hk.2 (by have := hk.1; simp; omega)) (fun k hk => ⟨by have := hk.1; omega, by have := hk.2; omega⟩)) (HTs.nil _ _) (HGs.nil _ _) (by decide) (by decide) (by decide) (by decide)
  | some a =>
    have ho : o ≠ none := fun h => by have := hn.2 h; cases this
    obtain ⟨l, rfl⟩ : ∃ l, o = some l := by cases o with | none => exact absurd rfl ho | some l => exact ⟨l, rfl⟩
    have hll := hl l rfl
    clear hn ho hl
    simp only [Option.getD_some] at hb ⊢
    have heq : ∀ u, (Sem.run Tryz.prog (binOp .eql 22 (.slice (some a) l.length cap) (.slice none 0 0)) u) = .ok (.bool false) u := oct_eq1 _ _ _
    go_enter Tryz.func281, Tryz.ntmps281
    go_wp2_with (at_builtin; go_loud (refine app_ob rfl (.const (.slice none 0 0)) (.tmp 3) rfl (w.heap.size + 1) (.slice none 0 0) [] rfl (OB.nil _ _) _ l G rfl (hb.keepF (hG.same (keep_box _)) (fun _ h => h)) (by simp; omega) (by simp) ?_; intro v2 w2 hob hgr; obtain ⟨a2, cp, rfl⟩ := hob.len; have k2 : Keep [] w w2 := (keep_box _).grown hgr (by simp [Value.ownBlock]); have hz2 : w.heap.size + 1 ≤ w2.heap.size := (by have := hgr.size; simpa using this); have r2 := (hgr.block w.heap.size (by simp) (by simp [Value.ownBlock])).trans (heap_alloc_new w (.cells #[.int .i64 0, .slice none 0 0, .bool false, .slice none 0 0, .slice none 0 0] 37)); have p0 : w2.cell? ⟨w.heap.size, 0, none⟩ = some (.int .i64 0) := cellOf r2 0 _ rfl; have pf0 := freeOf r2 0; have p1 : w2.cell? ⟨w.heap.size, 1, none⟩ = some (.slice none 0 0) := cellOf r2 1 _ rfl; have pf1 := freeOf r2 1; have p2 : w2.cell? ⟨w.heap.size, 2, none⟩ = some (.bool false) := cellOf r2 2 _ rfl; have pf2 := freeOf r2 2; have p3 : w2.cell? ⟨w.heap.size, 3, none⟩ = some (.slice none 0 0) := cellOf r2 3 _ rfl; have pf3 := freeOf r2 3; have p4 : w2.cell? ⟨w.heap.size, 4, none⟩ = some (.slice none 0 0) := cellOf r2 4 _ rfl; have pf4 := freeOf r2 4; have R2 : Hid _ := r2; clear r2))
    have hr : (((((w2.setCell ⟨w.heap.size, 0, none⟩ (.int .i64 0)).setCell ⟨w.heap.size, 1, none⟩ (.slice a2 l.length cp)).setCell ⟨w.heap.size, 2, none⟩ (.bool false)).setCell ⟨w.heap.size, 3, none⟩ (.slice none 0 0)).setCell ⟨w.heap.size, 4, none⟩ (.slice none 0 0)).heap[w.heap.size]? = some (.cells #[.int .i64 0, .slice a2 l.length cp, .bool false, .slice none 0 0, .slice none 0 0] 37 (0, 0)) := (set5 (o := 0) R2.out).1
    have kr : Keep [w.heap.size] w2 (((((w2.setCell ⟨w.heap.size, 0, none⟩ (.int .i64 0)).setCell ⟨w.heap.size, 1, none⟩ (.slice a2 l.length cp)).setCell ⟨w.heap.size, 2, none⟩ (.bool false)).setCell ⟨w.heap.size, 3, none⟩ (.slice none 0 0)).setCell ⟨w.heap.size, 4, none⟩ (.slice none 0 0)) := (set5 (o := 0) R2.out).2
    clear p0 pf0 p1 pf1 p2 pf2 p3 pf3 p4 pf4
    generalize (((((w2.setCell ⟨w.heap.size, 0, none⟩ (.int .i64 0)).setCell ⟨w.heap.size, 1, none⟩ (.slice a2 l.length cp)).setCell ⟨w.heap.size, 2, none⟩ (.bool false)).setCell ⟨w.heap.size, 3, none⟩ (.slice none 0 0)).setCell ⟨w.heap.size, 4, none⟩ (.slice none 0 0)) = W7 at *
    have r0 : W7.cell? ⟨w.heap.size, 0, none⟩ = some (.int .i64 0) := cellOf hr 0 _ rfl
    have r1 : W7.cell? ⟨w.heap.size, 1, none⟩ = some (.slice a2 l.length cp) := cellOf hr 1 _ rfl
    have r2 : W7.cell? ⟨w.heap.size, 2, none⟩ = some (.bool false) := cellOf hr 2 _ rfl
    have r3 : W7.cell? ⟨w.heap.size, 3, none⟩ = some (.slice none 0 0) := cellOf hr 3 _ rfl
    have r4 : W7.cell? ⟨w.heap.size, 4, none⟩ = some (.slice none 0 0) := cellOf hr 4 _ rfl
    have hzr := kr.size
    refine bodyPost_ret (v := .agg #[.int .i64 0, .slice a2 l.length cp, .bool false, .slice none 0 0, .slice none 0 0]) (by simp [results, Tryz.results281, go_sem, r0, r1, r2, r3, r4]) rfl ⟨[.int .i64 0, .slice a2 l.length cp, .bool false, .slice none 0 0, .slice none 0 0], rfl, ?_, ((k2.weaken (by simp)).trans kr).fresh (by simp)⟩
    have hrb : RB w2 (fun k => w.heap.size + 1 ≤ k ∧ k < w2.heap.size) (.slice a2 l.length cp) l := hob.rb
    exact HT.of 0 l false [] [] (hrb.keepF (fun k hk => kr.block k hk.2 (by have := hk.1; simp; omega)) (fun k hk => ⟨by have := hk.1; omega, by have := hk.2; omega⟩)) (HTs.nil _ _) (HGs.nil _ _) (by decide) (by decide) (by omega) (by decide)
end Go.Proofs.YtdebdgofomnpoaaGreatDoor
/-
  A region whose one store breaks what its loads stood on: the loads may be taken first all the same, if the store waits for them.
-/
namespace Go.Proofs.YtdebdgofomnpoaaGreatDoor
section
variable {P : Program} {ops : Array Oper} {Q : Exit → Act → World → Prop} {md : Region.Mode} {S : World → Prop} {brk : Nat}
/-- as 'wpAnyH', but behind the operation 'brk' nothing is asked -/
def wpAnyB (P : Program) (md : Region.Mode) (ops : Array Oper) (Q : Exit → Act → World → Prop) (S : World → Prop) (brk : Nat) : Nat → Array Bool → Act → World → Prop
  | 0, listed, a, w => Region.ready md ops listed = [] ∧ Q .normal a w
  | fuel + 1, listed, a, w =>
    (Region.ready md ops listed = [] → Q .normal a w) ∧
    ∀ i ∈ Region.ready md ops listed, wpOp P ops Q i (fun a' w' => (i ≠ brk → S w') ∧ wpAnyB P md ops Q S brk fuel (listed.setIfInBounds i true) a' w') a w
theorem wpAnyB.any : ∀ (fuel : Nat) (listed : Array Bool) (a : Act) (w : World), wpAnyB P md ops Q S brk fuel listed a w → wpAny P md ops Q fuel listed a w
  | 0, _, _, _, h => h
  | fuel + 1, _, _, _, h => ⟨h.1, fun i hi => wpOp_mono (fun a' w' h' => wpAnyB.any fuel _ a' w' h'.2) (h.2 i hi)⟩
/-- a set of operations that holds i and the breaking one; each but i waits for one of the set; none has come up -/
def chainB (md : Region.Mode) (ops : Array Oper) (listed : Array Bool) (i brk : Nat) (D : List Nat) : Bool :=
  D.contains brk && D.all fun d => !listed.getD d true && (d == i || match ops[d]? with
    | some o => o.after.any fun e => Region.binds md e && D.contains e.on
    | none => false)
theorem chain_keep {listed : Array Bool} {i j : Nat} {D : List Nat} (h : chainB md ops listed i brk D = true) (hj : j ∈ Region.ready md ops listed) (hji : j ≠ i) :
    j ≠ brk ∧ chainB md ops (listed.setIfInBounds j true) i brk D = true := by
  unfold chainB at *
  simp only [Bool.and_eq_true, List.all_eq_true] at h
  obtain ⟨hb, hD⟩ := h
  have hn : j ∉ D := fun hjD => by
    obtain ⟨_, o, ho, hall⟩ := mem_ready.1 hj
    obtain ⟨_, h2⟩ := hD j hjD
    simp only [Bool.or_eq_true, beq_iff_eq, hji, false_or, ho] at h2
    obtain ⟨e, he, h3⟩ := Array.any_eq_true'.1 h2
    simp only [Bool.and_eq_true] at h3
    have h4 := hall e he h3.1
    have h5 := (hD e.on (by simpa using h3.2)).1
    simp only [Bool.not_eq_true'] at h5
    rcases Nat.lt_or_ge e.on listed.size with h' | h'
    · simp [h'] at h4 h5; rw [h4] at h5; cases h5
    · simp [Array.getElem?_eq_none h'] at h4
  have hbD : brk ∈ D := by simpa using hb
  refine ⟨fun e => hn (e ▸ hbD), ?_⟩
  simp only [Bool.and_eq_true, List.all_eq_true]
  refine ⟨hb, fun d hd => ?_⟩
  have hdj : j ≠ d := fun e => hn (e ▸ hd)
  rw [getD_set_ne true hdj]
  exact hD d hd
theorem wpAnyB_first {i : Nat} {oi : Oper} {v : Value} (hi : ops[i]? = some oi) (hsel : ∀ (j : Nat) (o : Oper) cs b, ops[j]? = some o → o.op ≠ .select cs b)
    (hQ : ∀ c a w, Q (.panic c) (a.put oi.dst v) w → Q (.panic c) a w) (D : List Nat) :
    ∀ (fuel : Nat) (listed : Array Bool) (a : Act) (w : World),
      (∀ j oj, ops[j]? = some oj → j ≠ i → listed.getD j true = false → (∀ e ∈ oj.after, Region.binds md e = true → e.on ≠ i) → oi.apart ops oj = true) →
      chainB md ops listed i brk D = true →
      i ∈ Region.ready md ops listed → YieldsIf P ops S oi v a → S w →
      wpAnyB P md ops Q S brk fuel (listed.setIfInBounds i true) (a.put oi.dst v) w → wpAnyB P md ops Q S brk (fuel + 1) listed a w := by
  intro fuel
  induction fuel with
  | zero =>
    intro listed a w _ _ hr hy hS H
    refine ⟨fun h => (by rw [h] at hr; cases hr), fun j hj => ?_⟩
    by_cases hji : j = i
    · subst hji; exact hy.wpOp hi hS ⟨fun _ => hS, H⟩
    · have := ready_mono hj hji
      rw [H.1] at this
      cases this
  | succ fuel ih =>
    intro listed a w hfree hch hr hy hS H
    refine ⟨fun h => (by rw [h] at hr; cases hr), fun j hj => ?_⟩
    by_cases hji : j = i
    · subst hji; exact hy.wpOp hi hS ⟨fun _ => hS, H⟩
    · have h1 := H.2 j (ready_mono hj hji)
      obtain ⟨hjun, oj, hoj, hall⟩ := mem_ready.1 hj
      have hnot : ∀ e ∈ oj.after, Region.binds md e = true → e.on ≠ i := fun e he hb heq => by
        have h1 := hall e he hb
        have h0 := (mem_ready.1 hr).1
        rw [heq] at h1
        rcases Nat.lt_or_ge i listed.size with h' | h'
        · simp [h'] at h0 h1; rw [h0] at h1; cases h1
        · simp [Array.getElem?_eq_none h'] at h1
      have h2 := wpOp_putIf hoj (hfree j oj hoj hji hjun hnot) (fun cs b => hsel i oi cs b hi) (fun cs b => hsel j oj cs b hoj) hQ hy h1
      obtain ⟨hjb, hch'⟩ := chain_keep hch hj hji
      have hfree' : ∀ k ok, ops[k]? = some ok → k ≠ i → (listed.setIfInBounds j true).getD k true = false →
          (∀ e ∈ ok.after, Region.binds md e = true → e.on ≠ i) → oi.apart ops ok = true := fun k ok hk hki hun hno => by
        refine hfree k ok hk hki ?_ hno
        by_cases hjk : j = k
        · subst hjk; exact hjun
        · rw [getD_set_ne true hjk] at hun; exact hun
      refine wpOp_mono (fun a' w' h3 => ⟨h3.2.1, ih (listed.setIfInBounds j true) a' w' hfree' hch' (ready_mono hr (Ne.symm hji)) h3.1 (h3.2.1 hjb) ?_⟩) h2
      rw [Array.setIfInBounds_comm _ _ hji]
      exact h3.2.2
/-- take number i first -/
theorem wpAnyB_take {i : Nat} {oi : Oper} {v : Value} (D : List Nat) {fuel : Nat} {listed : Array Bool} {a : Act} {w : World} (hi' : ops.toList[i]? = some oi)
    (hs : Region.noSelect ops = true) (hf : Region.free md ops listed i = true) (hr : (Region.ready md ops listed).contains i = true) (hc : chainB md ops listed i brk D = true)
    (hQ : ∀ c a w, Q (.panic c) (a.put oi.dst v) w → Q (.panic c) a w) (hS : S w) (hy : YieldsIf P ops S oi v a)
    (h : wpAnyB P md ops Q S brk fuel (listed.setIfInBounds i true) (a.put oi.dst v) w) : wpAnyB P md ops Q S brk (fuel + 1) listed a w :=
  have hi : ops[i]? = some oi := by simpa using hi'
  wpAnyB_first hi (Region.noSelect_spec hs) hQ D fuel listed a w (Region.free_spec hi hf) hc (by simpa using hr) hy hS h
/-- all have come up -/
theorem wpAnyB_done {listed : Array Bool} {a : Act} {w : World} (hr : Region.ready md ops listed = []) (h : Q .normal a w) :
    ∀ fuel, wpAnyB P md ops Q S brk fuel listed a w
  | 0 => ⟨hr, h⟩
  | _ + 1 => ⟨fun _ => h, by rw [hr]; simp⟩
/-- one alone may come up: it is carried out -/
theorem wpAnyB_one {k : Nat} {o : Oper} {fuel : Nat} {listed : Array Bool} {a : Act} {w : World} (ho' : ops.toList[k]? = some o) (hr : Region.ready md ops listed = [k])
    (h : ∀ K : Act → World → Prop, Shut (∀ a w, (k ≠ brk → S w) → ((k ≠ brk → S w) → wpAnyB P md ops Q S brk fuel (listed.setIfInBounds k true) a w) → K a w) →
      if Region.wanted o (yielded ops a.tmps) = true then Oper.wp P o a w K Q else K (a.put o.dst undef) w) : wpAnyB P md ops Q S brk (fuel + 1) listed a w := by
  have ho : ops[k]? = some o := by simpa using ho'
  refine ⟨fun h0 => (by rw [h0] at hr; cases hr), fun i hi => ?_⟩
  rw [hr] at hi
  obtain rfl := List.mem_singleton.1 hi
  exact wpOp_step ho (fun K hK => h K (fun a w hS hW => hK a w ⟨hS, hW hS⟩))
/-- the beginning -/
theorem wp_region_B {id : Nat} {a : Act} {w : World} (brk : Nat) (S : World → Prop) (hm : P.follows .mixedOrders = true) (hS : S w.drew)
    (h : S w.drew → wpAnyB P .any ops Q S brk ops.size (Array.replicate ops.size false) a w.drew) : (Code.region id ops true).wp P Q a w :=
  wp_region_any hm ((h hS).any)
/-- two may come up -/
theorem wpAnyB_two {i j : Nat} {oi oj : Oper} {fuel : Nat} {listed : Array Bool} {a : Act} {w : World} (hi' : ops.toList[i]? = some oi) (hj' : ops.toList[j]? = some oj) (hr : Region.ready md ops listed = [i, j])
    (h1 : ∀ K : Act → World → Prop, Shut (∀ a w, (i ≠ brk → S w) → ((i ≠ brk → S w) → wpAnyB P md ops Q S brk fuel (listed.setIfInBounds i true) a w) → K a w) →
      if Region.wanted oi (yielded ops a.tmps) = true then Oper.wp P oi a w K Q else K (a.put oi.dst undef) w)
    (h2 : ∀ K : Act → World → Prop, Shut (∀ a w, (j ≠ brk → S w) → ((j ≠ brk → S w) → wpAnyB P md ops Q S brk fuel (listed.setIfInBounds j true) a w) → K a w) →
      if Region.wanted oj (yielded ops a.tmps) = true then Oper.wp P oj a w K Q else K (a.put oj.dst undef) w) : wpAnyB P md ops Q S brk (fuel + 1) listed a w := by
  have hi : ops[i]? = some oi := by simpa using hi'
  have hj : ops[j]? = some oj := by simpa using hj'
  refine ⟨fun h0 => (by rw [h0] at hr; cases hr), fun k hk => ?_⟩
  rw [hr] at hk
  rcases List.mem_cons.1 hk with rfl | hk
  · exact wpOp_step hi (fun K hK => h1 K (fun a w hS hW => hK a w ⟨hS, hW hS⟩))
  · obtain rfl := List.mem_singleton.1 hk
    exact wpOp_step hj (fun K hK => h2 K (fun a w hS hW => hK a w ⟨hS, hW hS⟩))
/-- three cells -/
def S3 (a1 a2 a3 : Addr) (v1 v2 v3 : Value) (w : World) : Prop := w.cell? a1 = some v1 ∧ w.cell? a2 = some v2 ∧ w.cell? a3 = some v3
theorem wp_region_B3 {id : Nat} {a : Act} {w : World} (brk : Nat) {a1 a2 a3 : Addr} {v1 v2 v3 : Value} (hm : P.follows .mixedOrders = true) (h1 : w.cell? a1 = some v1) (h2 : w.cell? a2 = some v2) (h3 : w.cell? a3 = some v3)
    (h : S3 a1 a2 a3 v1 v2 v3 w.drew → wpAnyB P .any ops Q (S3 a1 a2 a3 v1 v2 v3) brk ops.size (Array.replicate ops.size false) a w.drew) : (Code.region id ops true).wp P Q a w :=
  wp_region_B brk _ hm ⟨h1, h2, h3⟩ h
/-- four cells -/
def S4 (a1 a2 a3 a4 : Addr) (v1 v2 v3 v4 : Value) (w : World) : Prop := w.cell? a1 = some v1 ∧ w.cell? a2 = some v2 ∧ w.cell? a3 = some v3 ∧ w.cell? a4 = some v4
theorem wp_region_B4 {id : Nat} {a : Act} {w : World} (brk : Nat) {a1 a2 a3 a4 : Addr} {v1 v2 v3 v4 : Value} (hm : P.follows .mixedOrders = true) (h1 : w.cell? a1 = some v1) (h2 : w.cell? a2 = some v2) (h3 : w.cell? a3 = some v3) (h4 : w.cell? a4 = some v4)
    (h : S4 a1 a2 a3 a4 v1 v2 v3 v4 w.drew → wpAnyB P .any ops Q (S4 a1 a2 a3 a4 v1 v2 v3 v4) brk ops.size (Array.replicate ops.size false) a w.drew) : (Code.region id ops true).wp P Q a w :=
  wp_region_B brk _ hm ⟨h1, h2, h3, h4⟩ h
end
end Go.Proofs.YtdebdgofomnpoaaGreatDoor
