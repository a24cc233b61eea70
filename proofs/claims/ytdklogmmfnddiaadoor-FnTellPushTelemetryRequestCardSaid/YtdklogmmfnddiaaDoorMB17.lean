/-
  Tags.Each: the call that it is given is called for each tag, by rising numbers.
-/
import Derived.Test.YtdklogmmfnddiaaDoorMB16
import Derived.Test.YtdklogmmfnddiaaDoorMB6
import Derived.Test.YtdklogmmfnddiaaDoorMB2
import Derived.Test.YtdklogmmfnddiaaDoorMB3
import Derived.Test.YtdklogmmfnddiaaDoorMB12
import Derived.Test.YtdklogmmfnddiaaDoorMB13
import Derived.Maps.OwnSet
import Derived.OwnWalk
import Derived.WalkSpells
import Derived.Shelf.Abstract
import Derived.Laws.IdiomStrings
namespace Go.Proofs.YtdklogmmfnddiaaDoor
open Go.ChangeShapes Go.WideShapes Go.ChangeAt Go.RowKit

/-- outside J everything is as it was -/
structure Chg (J : Nat → Prop) (w w' : World) : Prop where
  os : w'.os = w.os
  tape : w'.tape = w.tape
  output : w'.output = w.output
  size : w.heap.size ≤ w'.heap.size
  block : ∀ k, k < w.heap.size → ¬ J k → w'.heap[k]? = w.heap[k]?
theorem Chg.refl (J : Nat → Prop) (w : World) : Chg J w w := ⟨rfl, rfl, rfl, Nat.le_refl _, fun _ _ _ => rfl⟩
theorem Keep.chg {w w' : World} (h : Keep [] w w') (J : Nat → Prop) : Chg J w w' := ⟨h.os, h.tape, h.output, h.size, fun k hk _ => h.block k hk (by simp)⟩
theorem Chg.trans {J J1 J2 : Nat → Prop} {w w1 w2 : World} (h : Chg J1 w w1) (k : Chg J2 w1 w2) (h1 : ∀ j, J1 j → J j ∨ w.heap.size ≤ j) (h2 : ∀ j, J2 j → J j ∨ w.heap.size ≤ j) : Chg J w w2 :=
  ⟨k.os.trans h.os, k.tape.trans h.tape, k.output.trans h.output, Nat.le_trans h.size k.size, fun j hj hn =>
    (k.block j (Nat.lt_of_lt_of_le hj h.size) (fun e => by
      rcases h2 j e with e | e
      · exact hn e
      · omega)).trans (h.block j hj (fun e => by
      rcases h1 j e with e | e
      · exact hn e
      · omega))⟩

theorem grown_set (w : World) (p : Addr) (u : Value) : w.grownBy (w.setCell p u) (some p.block) := ⟨rfl, rfl, rfl, by simp [World.setCell], fun k hk hne => Below.heap_setCell _ _ _ _ (fun e => hne (by rw [e]))⟩
/-- what was met so far -/
def Coll (tv : List (Nat × Value)) (left : Lit → Bool) (ss : List Int) : Prop :=
  ss.Nodup ∧ (∀ x : Int, left (.int .u32 x) = true → Maps.has (tD tv) (.int .u32 x) = true) ∧ ∀ x : Int, x ∈ ss ↔ (Maps.has (tD tv) (.int .u32 x) = true ∧ left (.int .u32 x) = false)
theorem Coll.start (tv : List (Nat × Value)) : Coll tv (Maps.has (tD tv)) [] :=
  ⟨List.nodup_nil, fun _ h => h, fun x => by cases Maps.has (tD tv) (.int .u32 x) <;> simp⟩
theorem Coll.step {tv : List (Nat × Value)} {left : Lit → Bool} {ss : List Int} (h : Coll tv left ss) {x : Int} (hl : left (.int .u32 x) = true) : Coll tv (fun z => left z && !z.sameKey (.int .u32 x)) (ss ++ [x]) := by
  obtain ⟨h1, h2, h3⟩ := h
  refine ⟨?_, fun y hy => h2 y (by simp at hy; exact hy.1), fun y => ?_⟩
  · refine List.nodup_append.2 ⟨h1, by simp, fun a ha b hb => ?_⟩
    simp at hb
    subst hb
    rintro rfl
    have := ((h3 a).1 ha).2
    rw [hl] at this
    cases this
  · simp only [List.mem_append, List.mem_singleton, h3]
    by_cases e : y = x
    · subst e
      simp [Lit.sameKey, h2 y hl]
    · have : (Lit.int .u32 y).sameKey (.int .u32 x) = false := by simp [Lit.sameKey, e]
      simp [this, e]
theorem Coll.perm {tv : List (Nat × Value)} {left : Lit → Bool} {ss : List Int} (h : Coll tv left ss) (hr : Rising tv) (hl : ∀ kl, left kl = false) : ss.Perm (tv.map fun x => (x.1 : Int)) := by
  obtain ⟨h1, _, h3⟩ := h
  refine (List.perm_ext_iff_of_nodup h1 ?_).2 fun x => ?_
  · refine List.pairwise_map.2 (hr.imp fun {a b} hab => ?_)
    omega
  · rw [h3]
    simp only [hl, and_true, List.mem_map]
    constructor
    · intro hx
      obtain ⟨y, hy, e⟩ := tD_has hx
      exact ⟨y, hy, e⟩
    · rintro ⟨y, hy, rfl⟩
      exact tD_has_mem hy
theorem keys_lt {tv : List (Nat × Value)} (hr : Rising tv) : (tv.map fun x => (x.1 : Int)).Pairwise (· < ·) := List.pairwise_map.2 (hr.imp fun {a b} hab => by omega)

theorem info_n32 : (Tryd.prog.info? 61).map (fun i => (i.zero, i.size, i.bytes)) = some (some (.int .u32 0), 1, 4) := by kernel_rfl
theorem zero_sl : ∀ w, (zeroValue 22).run Tryd.prog w = .ok (.slice none 0 0) w := Tryd.zeroValue22
theorem tlook {tv : List (Nat × Value)} {n r : Nat} {w : World} (hown : w.ownsMap Tryd.prog 61 tR r n (tD tv)) (hr : Rising tv) (hlt : ∀ x ∈ tv, x.1 < 4294967296) {x : Nat × Value} (hx : x ∈ tv) :
    (Instr.lookup 74 (.map (some r)) (.int .u32 (x.1 : Int)) false).run Tryd.prog w = .ok x.2 w := by
  obtain ⟨v, ps, h1, h2⟩ := hown.lookup (Maps.int_keyed Tryd.underlying61) Tryd.underlying74 (zero_sl w) (zd := .held (.slice none 0 0)) (zp := []) rfl (Maps.keyOf_int_mk Tryd.underlying61 (wf_u32 (hlt x hx)))
  rw [tD_at hr hx] at h2
  simp only [tR, Option.some.injEq, Prod.mk.injEq, DataW.held.injEq] at h2
  rw [h1, h2.1]

set_option maxHeartbeats 1000000 in
set_option maxRecDepth 100000 in
theorem each_any {b i n fn : Nat} {v p : Value} {tv : List (Nat × Value)} {w : World} {c : Array Value} {t : TypeId} (hb : w.heap[b]? = some (.cells c t (0, 0))) (hc : c[i]? = some v) (hm : MO w v n tv) (hn : n ≤ 17179869184)
    (eg : ∀ args w, (callFunc fn args).run Tryd.prog w = .ok (.enter fn args) w)
    (I : Nat → (Nat → Prop) → World → Prop) (J0 : Nat → Prop) (hI : I 0 J0 w) (hJb : ¬ J0 b) (hJm : ∀ k ∈ mblk v, ¬ J0 k) (hJlt : ∀ k, J0 k → k < w.heap.size)
    (hkeep : ∀ d J W W', I d J W → Keep [] W W' → I d J W')
    (hstep : ∀ j (hj : j < tv.length) J W, I j J W → w.heap.size ≤ W.heap.size → Calls Tryd.prog fn #[.int .u32 (tv[j].1 : Int), tv[j].2, p] W fun e W' => e = .returned (.tuple #[]) ∧ ∃ J', I (j + 1) J' W' ∧ (∀ j, J' j → J j ∨ W.heap.size ≤ j) ∧ Chg J W W') :
    Calls Tryd.prog 42 #[.pointer (some ⟨b, i, none⟩), .func (.func fn) #[] #[p]] w fun e w' => e = .returned (.tuple #[]) ∧ ∃ J', I tv.length J' w' ∧ (∀ j, J' j → J0 j ∨ w.heap.size ≤ j) ∧ Chg J0 w w' := by
  have hbl : b < w.heap.size := (Array.getElem?_eq_some_iff.1 hb).1
  obtain ⟨hr, hlt, hcase⟩ := hm
  by_cases h0 : tv = []
  · subst h0
    have cb : w.cell? ⟨b, i, none⟩ = some v := cellOf hb i _ hc
    rcases hcase with ⟨rfl, _⟩ | ⟨r, rfl, hown⟩
    · have hlen := Maps.len_nil (w := w) Tryd.underlying74 3
      go_enter Tryd.func42, Tryd.ntmps42
      go_wp2_with fail
      refine bodyPost_ret (v := .tuple #[]) (by simp [results, Tryd.results42, go_sem]) rfl ⟨rfl, J0, hI, fun _ h => .inl h, Chg.refl _ _⟩
    · have hlen := hown.len Tryd.underlying74 3
      rw [tD_size] at hlen
      go_enter Tryd.func42, Tryd.ntmps42
      go_wp2_with fail
      refine bodyPost_ret (v := .tuple #[]) (by simp [results, Tryd.results42, go_sem]) rfl ⟨rfl, J0, hI, fun _ h => .inl h, Chg.refl _ _⟩
  rcases hcase with ⟨_, h⟩ | ⟨r, rfl, hown⟩
  · exact absurd h h0
  obtain ⟨i0, hi, hy0, hy1, hy2⟩ := info_parts info_n32
  have hpos : 0 < tv.length := List.length_pos_iff.2 h0
  have hsz : tv.length ≤ n := by
    obtain ⟨es, clock, _, _, h, e⟩ := hown
    have h2 := congrArg Maps.size e
    rw [tD_size] at h2
    simp [Maps.size, length_sorted] at h2
    omega
  have cb : w.cell? ⟨b, i, none⟩ = some (.map (some r)) := cellOf hb i _ hc
  have hlen := hown.len Tryd.underlying74 3
  rw [tD_size] at hlen
  have hrl := hown.lt
  go_enter Tryd.func42, Tryd.ntmps42
  go_wp2_with (first
    | (at_make; go_loud (refine wpList_make_own _ rfl _ _ 106 rfl w.heap.size 61 i0 (.int .u32 0) 1 Tryd.underlying106 hi hy0 hy1 _ _ _ tv.length rfl rfl rfl (by rw [hy2]; omega) (by unfold maxLen; omega) (Nat.le_refl _) ?_; intro w1 hrow1 hg1; have kg1 : Keep [] w w1 := (Keep.refl _ _).grown hg1 (by simp); have cb1 : (w1.alloc (.cells #[.slice (some ⟨w.heap.size, 0, none⟩) 0 tv.length] 106)).cell? ⟨b, i, none⟩ = some (.map (some r)) := ((kg1.alloc _).cell (p := ⟨b, i, none⟩) hbl (by simp)).trans cb))
    | (at_range; go_loud (refine wpList_range_own _ rfl _ 74 rfl 61 22 (Maps.int_keyed Tryd.underlying61) Tryd.underlying74 _ r n _ rfl ((hown.kept hg1 (by simp)).alloc _) ?_; intro w0 hrg0 hg0 hs0)))
  go_frame
  have k0 : Keep [] w w0 := (kg1.alloc _).grown hg0 (by simp)
  have hz1 : w.heap.size + 1 ≤ w1.heap.size := by
    rcases hrow1.2 with ⟨h, _⟩ | ⟨g, cap, cur, e, _, hb', _⟩
    · cases h
    · cases e
      have := (Array.getElem?_eq_some_iff.1 hb').1
      omega
  have hz0' : w0.heap.size = w1.heap.size + 2 := by simpa using hs0
  have hri1 : w1.heap.size < (w1.alloc (.cells #[.slice (some ⟨w.heap.size, 0, none⟩) 0 tv.length] 106)).heap.size := by simp
  have hri2 : (w1.alloc (.cells #[.slice (some ⟨w.heap.size, 0, none⟩) 0 tv.length] 106)).heap.size < w0.heap.size := by rw [hz0']; simp
  have hbox0 : w0.heap[w1.heap.size]? = some (.cells #[.slice (some ⟨w.heap.size, 0, none⟩) 0 tv.length] 106 (0, 0)) := (hg0.block _ (by simp) (by simp)).trans (heap_alloc_new w1 _)
  have hrow0 := (hrow1.alloc (.cells #[.slice (some ⟨w.heap.size, 0, none⟩) 0 tv.length] 106)).kept hg0 (Or.inr (by simp [Value.ownBlock]))
  rw [tD_size] at hrg0
  clear hs0 cb1 cb hlen hrow1
  generalize (w1.alloc (.cells #[.slice (some ⟨w.heap.size, 0, none⟩) 0 tv.length] 106)).heap.size = rI at *
  go_loopw [5] (fun _ wr => ∃ (left : Lit → Bool) (cnt : Nat) (ss : List Int), wr.ranges Tryd.prog 61 tR r rI n (tD tv) left cnt ∧ ss.length + cnt ≤ tv.length ∧
      wr.heap[w1.heap.size]? = some (.cells #[.slice (some ⟨w.heap.size, 0, none⟩) ss.length tv.length] 106 (0, 0)) ∧ wr.ownsRow w.heap.size 61 1 (.slice (some ⟨w.heap.size, 0, none⟩) ss.length tv.length) ss.length (ss.map (Value.int .u32)) ∧ Coll tv left ss ∧ Keep [] w wr ∧ w1.heap.size + 2 ≤ wr.heap.size)
    (fun _ wr => wr.rangeLeft r rI)
  case atStart => exact ⟨_, _, [], hrg0, by simp, hbox0, hrow0, Coll.start tv, k0, by omega⟩
  case round =>
    obtain ⟨left, cnt, ss, hrg, hcs, hbx, hrow, hC, hk, hzr⟩ := hrel
    have qb : wr.cell? ⟨w1.heap.size, 0, none⟩ = some (.slice (some ⟨w.heap.size, 0, none⟩) ss.length tv.length) := cellOf hbx 0 _ rfl
    have fb := freeOf hbx 0
    have HBX : Hid _ := hbx
    clear hbx hbox0
    go_wp2_with (first
      | (at_next; go_loud (refine wpList_next_ranges _ rfl _ rfl 61 (Maps.int_keyed Tryd.underlying61) tR (Value.int .u32) (fun v : Value => v) (fun key kl hkey => by obtain ⟨x, rfl, _⟩ := Maps.keyOf_int_inv Tryd.underlying61 hkey; exact ⟨x, rfl⟩) (fun v y _ => ⟨v, rfl⟩) r rI n _ _ _ rfl hrg ?_ ?_)))
    · intro hc0 hl0
      have hperm := hC.perm hr hl0
      have hK := keys_lt hr
      obtain ⟨cur, hcur, hcz, hct⟩ : ∃ cur, wr.heap[w.heap.size]? = some (.cells cur 61 (0, 0)) ∧ cur.size = tv.length ∧ cur.toList.take ss.length = ss.map (Value.int .u32) := by
        rcases hrow.2 with ⟨h, _⟩ | ⟨g, cap, cur, e, _, hb', _, _, h3, h4⟩
        · cases h
        · cases e
          exact ⟨cur, hb', by simpa using h3, by simpa using h4⟩
      have hsl : ss.length = tv.length := by have := hperm.length_eq; simpa using this
      have TS := tsort_any (tb := 106) hcur hct (by omega) HBX.out (by omega) (by omega) hK hperm
      rw [hsl] at TS qb hct
      clear hrow hcs
      have Q := fun w' (h : Keep [w.heap.size] wr w') => (h.cell (p := ⟨w1.heap.size, 0, none⟩) (World.block_lt_of_cell? wr _ qb) (by simp; omega)).trans qb
      have HQ : Hid _ := Q
      have HSL : Hid _ := hsl
      clear hcur Q hsl hct hperm hC
      go_wp2_with (go_at_call 61; go_loud (refine TS.mono ?_; rintro e ws ⟨rfl, cur', hcur', hct', hcz', ks⟩; have qs := HQ.out ws ks))
      have kS : Keep [] w ws := ((hk.weaken (B := [w.heap.size]) (by simp)).trans ks).fresh (by simp)
      have hgJ : ¬ J0 w.heap.size := fun h => by have := hJlt _ h; omega
      have hII := hkeep _ _ _ _ hI kS
      have HKEY : Hid _ := hct'
      have hce : ∀ j (hj : j < tv.length), cur'[j]? = some (.int .u32 (tv[j].1 : Int)) := fun j hj => by
        have e := congrArg (fun l => l[j]?) HKEY.out
        simp only [List.getElem?_take_of_lt hj, Array.getElem?_toList, List.map_map, List.getElem?_map, List.getElem?_eq_getElem hj, Option.map_some] at e
        exact e
      clear hct' qs qb fb hkeep TS
      go_loopw [39, 7] (fun k _ wq => ∃ (j : Nat) (J : Nat → Prop), k = .int .i64 (j : Int) ∧ j ≤ tv.length ∧ I j J wq ∧ (∀ x, J x → J0 x ∨ w.heap.size ≤ x) ∧ Chg J0 w wq ∧ ¬ J w.heap.size ∧ wq.heap[w.heap.size]? = some (.cells cur' 61 (0, 0))) (fun k _ _ => tv.length - (intOf k).toNat)
      case atStart => exact ⟨0, J0, rfl, Nat.zero_le _, hII, fun _ h => .inl h, kS.chg _, hgJ, hcur'⟩
      case round =>
        obtain ⟨j, J, rfl, hj, hIj, hJ, hch, hgj, hcq⟩ := hrel
        have hbq := (hch.block b hbl hJb).trans hb
        have cbq : _ := cellOf hbq i _ hc
        by_cases hlt2 : j < tv.length
        · have hmem : tv[j] ∈ tv := List.getElem_mem hlt2
          have hcj := cellOf hcq j _ (hce j hlt2)
          have hlook := tlook (w := _) (let ⟨es, clock, hb', h4⟩ := hown; ⟨es, clock, (hch.block r hrl (hJm r (by simp [mblk]))).trans hb', h4⟩) hr hlt hmem
          have HS := hstep j hlt2 J _ hIj hch.size
          have hzq := hch.size
          clear hmem hbq hcur'
          generalize hx : tv[j] = x at *
          obtain ⟨kx, vx⟩ := x
          clear hx
          simp only at hcj hlook HS
          have hgz := World.block_lt_of_cell? _ _ hcj
          have HCQ : Hid _ := hcq
          clear hcq
          go_wp2_with (go_at_fn fn; go_loud (refine HS.mono ?_; rintro e wz ⟨rfl, J', hI', hJ', hcz⟩))
          refine ⟨⟨j + 1, J', by go_num, by omega, hI', fun y h => (hJ' y h).elim (hJ y) (fun h => .inr (by omega)), hch.trans hcz (fun _ h => .inl h) hJ, fun h => (hJ' _ h).elim hgj (fun h => by omega), (hcz.block _ hgz hgj).trans HCQ.out⟩, by simp [intOf]; omega⟩
        · obtain rfl : j = tv.length := by omega
          clear hcq hbq cbq
          go_wp2_with fail
          refine bodyPost_end (v := .tuple #[]) (by simp [results, Tryd.results42, go_sem]) rfl ⟨rfl, J, hIj, hJ, hch⟩
    · intro x c' kl yd yp w2 cnt2 hkey hlk hv hat hrg2 hlt2 hg2 hs2 hen
      obtain ⟨x', ex, rfl, hwx⟩ := Maps.keyOf_int_inv Tryd.underlying61 hkey
      cases ex
      have hz2' : wr.heap.size ≤ w2.heap.size := hg2.size
      have hrow2 := hrow.kept hg2 (Or.inr (by simp [Value.ownBlock]; omega))
      have bx2 := (hg2.block w1.heap.size (by omega) (by simp; omega)).trans HBX.out
      have q2 : w2.cell? ⟨w1.heap.size, 0, none⟩ = some (.slice (some ⟨w.heap.size, 0, none⟩) ss.length tv.length) := cellOf bx2 0 _ rfl
      have HB2 : Hid _ := bx2
      have hbl2 : w1.heap.size < w2.heap.size := World.block_lt_of_cell? w2 _ q2
      clear hs2 bx2 qb fb
      go_wp2_with (at_builtin; go_loud (refine wpList_append_fits _ rfl _ _ 106 rfl w.heap.size 61 i0 1 Tryd.underlying106 hi hy1 w.heap.size ss.length tv.length _ rfl (hrow2.alloc _) ⟨w2.heap.size, 0, none⟩ 1 1 [.int .u32 x] rfl rfl (cell_one_new _ _ _) (by simp [Value.oneCell']) (by omega) ?_; intro w3 hown3 hg3; have bx3 := (hg3.block w1.heap.size (by simp; omega) (by simp; omega)).trans (((keep_box (A := []) (.cells #[.int .u32 x] 61)).block w1.heap.size hbl2 (by simp)).trans HB2.out); have q3 := cellOf bx3 0 _ rfl; have f3 := freeOf bx3 0; have HB3 : Hid _ := bx3; clear bx3 q2))
      have g4 := grown_set w3 ⟨w1.heap.size, 0, none⟩ (.slice (some ⟨w.heap.size, 0, none⟩) (ss.length + 1) tv.length)
      have hrg4 := (((hrg2.alloc (.cells #[.int .u32 x] 61)).kept hg3 (by simp; omega) (by simp; omega)).kept g4 (by simp; omega) (by simp; omega))
      have hz3 := hg3.size
      have hz4 := g4.size
      have k4 : Keep [] w (w3.setCell ⟨w1.heap.size, 0, none⟩ (.slice (some ⟨w.heap.size, 0, none⟩) (ss.length + 1) tv.length)) := (((hk.grown hg2 (by simp; omega)).alloc (.cells #[.int .u32 x] 61)).grown hg3 (by simp)).grown g4 (by simp; omega)
      have hb4 := heap_set (i := 0) HB3.out (.slice (some ⟨w.heap.size, 0, none⟩) (ss.length + 1) tv.length)
      simp at hz3
      refine ⟨⟨_, cnt2, ss ++ [x], hrg4, by simp; omega, by simpa using hb4, ?_, hC.step hlk, k4, by omega⟩, ?_⟩
      · have h := hown3.kept g4 (Or.inr (by simp [Value.ownBlock]; omega))
        simpa using h
      · rw [hrg4.left_eq, hrg.left_eq]; exact hlt2
end Go.Proofs.YtdklogmmfnddiaaDoor
/-
  impl.sorted over tags that already lie by rising numbers: nothing turns.
-/
namespace Go.Proofs.YtdklogmmfnddiaaDoor
open Go.ChangeShapes Go.WideShapes Go.ChangeAt Go.RowKit

set_option maxHeartbeats 400000 in
set_option maxRecDepth 100000 in
theorem sorted_any {G : Nat → Prop} {u : List Tg} {v : Value} {w : World} (h : HGs w G v u) (hG : There G w) (hr : Rising u) :
    Calls Tryd.prog 44 #[v] w fun e w' => e = .returned (.tuple #[]) ∧ Keep [] w w' := by
  obtain ⟨ao, cap, rfl, hcap⟩ : ∃ ao cap, v = .slice ao u.length cap ∧ u.length ≤ cap := by
    obtain ⟨vs, h1, _, _, _, ao, cap, e, h4, _⟩ := h
    exact ⟨ao, cap, e, h4⟩
  have hbd := h.bd
  go_enter Tryd.func44, Tryd.ntmps44
  go_wp2_with fail
  go_loopw [6, 2, 3] (fun k _ _ wr => ∃ j : Nat, k = .int .i64 (j : Int) ∧ j ≤ u.length ∧ Keep [] w wr) (fun k _ _ _ => u.length - (intOf k).toNat)
  case atStart => exact ⟨0, rfl, Nat.zero_le _, Keep.refl _ _⟩
  case round =>
    obtain ⟨j, rfl, hj, hk⟩ := hrel
    have hw := h.keepF (w' := wr) (G := G) (hG.same hk) (fun _ h => h)
    by_cases hlt : j < u.length
    · cases j with
      | zero =>
        go_wp2_with fail
        refine wp_loop_rounds 1 ?_
        rw [rounds_succ]
        go_wp2_with fail
        go_region
        go_wp2_with fail
        go_roundw
        case rel => exact ⟨1, by go_num, by omega, hk.drew⟩
        case measure => simp [intOf]; omega
      | succ m =>
        obtain ⟨bx, ox, av, pv, hv, hGx, c0, c1, _⟩ := hw.elem hlt
        cases hv
        obtain ⟨_, _, av', pv', hv, _, d0, d1, _⟩ := hw.elem (i := m) (by omega)
        cases hv
        have hle : u[m].1 < u[m + 1].1 := List.pairwise_iff_getElem.1 hr m (m + 1) (by omega) hlt (by omega)
        generalize hx : u[m + 1].1 = x1 at *
        generalize hy : u[m].1 = x0 at *
        go_wp2_with fail
        refine wp_loop_rounds 1 ?_
        rw [rounds_succ]
        go_wp2_with fail
        go_region
        go_wp2_with fail
        go_roundw
        case rel => exact ⟨m + 2, by go_num, by omega, hk.drew⟩
        case measure => simp [intOf]; omega
    · go_wp2_with fail
      refine bodyPost_end (v := .tuple #[]) (by simp [results, Tryd.results44, go_sem]) rfl ⟨rfl, hk⟩
end Go.Proofs.YtdklogmmfnddiaaDoor
/-
  TELLING A PART: what the call that Tags.Each makes for each tag does to the tree that is being made.
-/
namespace Go.Proofs.YtdklogmmfnddiaaDoor
open Go.ChangeShapes Go.WideShapes Go.ChangeAt Go.RowKit

theorem info_ig : (Tryd.prog.info? 63).map (fun i => (i.size, i.bytes)) = some (2, 32) := by kernel_rfl
theorem zero_ig : (Tryd.prog.info? 63).bind (fun i => i.zero) = some (.agg #[.int .u32 0, .slice none 0 0]) := by kernel_rfl
/-- the tree that is being made: its tags so far -/
def TSt (W0 : World) (tb : Nat) (n s nul l : Value) (d : List Tg) (J : Nat → Prop) (W : World) : Prop :=
  ∃ u, W.heap[tb]? = some (.cells #[n, s, nul, l, u] 37 (0, 0)) ∧ OG W W0.heap.size 63 (fun k => W0.heap.size ≤ k ∧ k < W.heap.size) u d ∧ (∀ k, J k ↔ (k = tb ∨ u.ownBlock = some k)) ∧
    W0.heap.size ≤ W.heap.size ∧ (∀ k, k < W0.heap.size → k ≠ tb → W.heap[k]? = W0.heap[k]?)
theorem TSt.keep {W0 W W' : World} {tb : Nat} {n s nul l : Value} {d : List Tg} {J : Nat → Prop} (h : TSt W0 tb n s nul l d J W) (hk : Keep [] W W') : TSt W0 tb n s nul l d J W' := by
  obtain ⟨u, h1, h2, h3, h4, h5⟩ := h
  have hs := hk.size
  refine ⟨u, (hk.block _ (Array.getElem?_eq_some_iff.1 h1).1 (by simp)).trans h1, h2.keepF (fun k hk' => hk.block k hk'.2 (by simp)) (fun k hk' => ⟨hk'.1, by omega⟩) (fun k e => ?_), h3, by omega, fun k hk' hne => (hk.block k (by omega) (by simp)).trans (h5 k hk' hne)⟩
  obtain ⟨vs, _, _, _, _, hrow⟩ := h2
  exact hk.block k (hrow.lt k e).2 (by simp)
theorem TSt.start {W0 : World} {tb : Nat} {n s nul l : Value} (h : W0.heap[tb]? = some (.cells #[n, s, nul, l, .slice none 0 0] 37 (0, 0))) : TSt W0 tb n s nul l [] (fun k => k = tb) W0 :=
  ⟨_, h, OG.nil _ _ _ _, by simp [Value.ownBlock], Nat.le_refl _, fun _ _ _ => rfl⟩
/-- one tag more: W2 is W and new blocks, W3 is it with the grown row -/
theorem TSt.push {W0 W W2 W3 : World} {tb g cap : Nat} {n s nul l u vx : Value} {d : List Tg} {J : Nat → Prop} {x : Tg} {cs : List Value}
    (htb : tb < W0.heap.size) (hW : W0.heap.size ≤ W.heap.size) (h5 : ∀ k, k < W0.heap.size → k ≠ tb → W.heap[k]? = W0.heap[k]?) (h1 : W.heap[tb]? = some (.cells #[n, s, nul, l, u] 37 (0, 0))) (hJ : ∀ k, J k ↔ (k = tb ∨ u.ownBlock = some k)) (hu : ∀ k, u.ownBlock = some k → W0.heap.size ≤ k ∧ k < W.heap.size)
    (k2 : Keep [] W W2) (e1 : cs.length = d.length) (e2 : ∀ i (a : i < d.length) (b : i < cs.length), RB W2 (Off (fun k => W0.heap.size ≤ k ∧ k < W2.heap.size) u) cs[i] d[i].2) (e3 : ∀ y ∈ d, y.1 < 4294967296 ∧ y.2.length ≤ 9223372036854775807)
    (hx : RB W2 (fun k => W.heap.size ≤ k ∧ k < W2.heap.size) vx x.2) (hx1 : x.1 < 4294967296 ∧ x.2.length ≤ 9223372036854775807) (hl : d.length + 1 ≤ 1099511627776)
    (hown : W3.ownsRow W0.heap.size 63 2 (.slice (some ⟨g, 0, none⟩) (d.length + 1) cap) (d.length + 1) (((d.zip cs).map fun x => [Value.int .u32 (x.1.1 : Int), x.2]).flatten ++ [.int .u32 (x.1 : Int), vx])) (hgr : W2.grownBy W3 u.ownBlock) (hat : u.ownBlock = some g ∨ g = W2.heap.size) :
    ∃ J', TSt W0 tb n s nul l (d ++ [x]) J' (W3.setCell ⟨tb, 4, none⟩ (.slice (some ⟨g, 0, none⟩) (d.length + 1) cap)) ∧ (∀ j, J' j → J j ∨ W.heap.size ≤ j) ∧ Chg J W (W3.setCell ⟨tb, 4, none⟩ (.slice (some ⟨g, 0, none⟩) (d.length + 1) cap)) := by
  have hz2 := k2.size
  have hz3 := hgr.size
  have P := OG.push (w := W2) (w' := W3) (B := W0.heap.size) (E := 63) (G := fun k => W0.heap.size ≤ k ∧ k < W2.heap.size) (v := u) (x := x) (vx := vx) (g := g) (cap := cap) e1 e2 e3
    (hx.keepF (fun _ _ => rfl) (fun k hk => ⟨⟨by omega, hk.2⟩, fun e => by have := hu k e.symm; omega⟩)) hx1 (fun k hk => hk.2) hl hown hgr (hat.imp id (fun h => by omega))
  have hb2 := (k2.block tb (by omega) (by simp)).trans h1
  have hb3 := (hgr.block tb (by omega) (fun e => by have := hu tb e.symm; omega)).trans hb2
  have hb4 := heap_set (i := 4) hb3 (.slice (some ⟨g, 0, none⟩) (d.length + 1) cap)
  have hz4 : (W3.setCell ⟨tb, 4, none⟩ (.slice (some ⟨g, 0, none⟩) (d.length + 1) cap)).heap.size = W3.heap.size := by simp [World.setCell]
  have hs : ∀ k, k ≠ tb → (W3.setCell ⟨tb, 4, none⟩ (.slice (some ⟨g, 0, none⟩) (d.length + 1) cap)).heap[k]? = W3.heap[k]? := fun k hk => Below.heap_setCell _ _ _ _ (fun e => hk (by simpa using e))
  have hgl := (hown.lt g rfl)
  refine ⟨fun k => k = tb ∨ k = g, ⟨_, hb4, P.keepF (fun k hk => hs k (by have := hk.1; omega)) (fun k hk => ⟨hk.1, by omega⟩) (fun k e => hs k (by have := (hown.lt k e).1; omega)), fun k => by simp [Value.ownBlock, eq_comm], by omega, fun k hk hne => ?_⟩, fun j hj => ?_, ?_⟩
  · rw [hs k hne, hgr.block k (by omega) (fun e => by have := hu k e.symm; omega), k2.block k (by omega) (by simp)]
    exact h5 k hk hne
  · rcases hj with rfl | rfl
    · exact .inl ((hJ _).2 (.inl rfl))
    · rcases hat with h | h
      · exact .inl ((hJ _).2 (.inr h))
      · exact .inr (by omega)
  · refine ⟨hgr.os.trans k2.os, hgr.tape.trans k2.tape, hgr.output.trans k2.output, by omega, fun k hk hn => ?_⟩
    rw [hs k (fun e => hn ((hJ k).2 (.inl e))), hgr.block k (by omega) (fun e => hn ((hJ k).2 (.inr e.symm))), k2.block k hk (by simp)]
theorem Chg.keep1 {J : Nat → Prop} {w w' : World} {A : List Nat} (h : Chg J w w') (hA : ∀ k, J k → k ∈ A) : Keep A w w' := ⟨h.os, h.tape, h.output, h.size, fun k hk hn => h.block k hk (fun e => hn (hA k e))⟩
theorem MP.rising {w : World} {G : Nat → Prop} {v : Value} {l : List Tg} (h : MP w G v l) : Rising l ∧ ∀ x ∈ l, x.1 < 4294967296 := by
  obtain ⟨n, m, _, ⟨h1, h2, _⟩, _, rfl, _⟩ := h
  refine ⟨?_, fun x hx => ?_⟩
  · unfold Rising at *
    rw [List.pairwise_map] at h1 ⊢
    exact h1
  · obtain ⟨y, hy, rfl⟩ := List.mem_map.1 hx
    exact h2 _ (List.mem_map.2 ⟨y, hy, rfl⟩)
set_option maxRecDepth 100000 in
theorem tell_each {Wn : World} {tb b i fn : Nat} {n s nul l tv : Value} {c : Array Value} {t : TypeId} {G : Nat → Prop} {tags : List Tg} (h2 : Wn.heap[tb]? = some (.cells #[n, s, nul, l, .slice none 0 0] 37 (0, 0))) (hb : Wn.heap[b]? = some (.cells c t (0, 0))) (hc : c[i]? = some tv)
    (hmp : MP Wn G tv tags) (hG : There G Wn) (hbt : b ≠ tb) (hGt : ¬ G tb) (ht1 : ∀ x ∈ tags, x.2.length ≤ 1000000) (ht2 : tags.length ≤ 1000000) (eg : ∀ args w, (callFunc fn args).run Tryd.prog w = .ok (.enter fn args) w)
    (TAG : ∀ {W : World} {d : List Tg} {J : Nat → Prop} {key : Nat} {x : Value} {val : Bs}, TSt Wn tb n s nul l d J W → RB W G x val → key < 4294967296 → val.length ≤ 1000000 → d.length ≤ 1000000000000 → Calls Tryd.prog fn #[.int .u32 (key : Int), x, .pointer (some ⟨tb, 0, none⟩)] W fun e W' => e = .returned (.tuple #[]) ∧ ∃ J', TSt Wn tb n s nul l (d ++ [(key, val)]) J' W' ∧ (∀ j, J' j → J j ∨ W.heap.size ≤ j) ∧ Chg J W W') :
    Calls Tryd.prog 42 #[.pointer (some ⟨b, i, none⟩), .func (.func fn) #[] #[.pointer (some ⟨tb, 0, none⟩)]] Wn fun e W' => e = .returned (.tuple #[]) ∧ ∃ u, W'.heap[tb]? = some (.cells #[n, s, nul, l, u] 37 (0, 0)) ∧ OG W' Wn.heap.size 63 (fun k => Wn.heap.size ≤ k ∧ k < W'.heap.size) u tags ∧ Keep [tb] Wn W' := by
  obtain ⟨nn, m, hnn, hmo, hblk, rfl, hrb⟩ := hmp
  have htl : tb < Wn.heap.size := (Array.getElem?_eq_some_iff.1 h2).1
  have E := each_any hb hc hmo (by omega) eg (I := fun j J W => TSt Wn tb n s nul l ((m.take j).map fun x => (x.1, x.2.2)) J W) (J0 := fun k => k = tb) (p := .pointer (some ⟨tb, 0, none⟩)) (by simpa using TSt.start h2) hbt (fun k hk e => hGt (e ▸ hblk k hk)) (fun k hk => by rw [hk]; exact htl)
    (fun _ _ _ _ h k => h.keep k) (fun j hj J W h hz => by
      have hj' : j < m.length := by simpa using hj
      have hmem : m[j] ∈ m := List.getElem_mem hj'
      have h' := h
      obtain ⟨_, _, _, _, _, h5⟩ := h'
      have hR : RB W G m[j].2.1 m[j].2.2 := (hrb _ hmem).keepF (fun k hk => h5 k (hG k hk) (fun e => hGt (e ▸ hk))) (fun _ h => h)
      have T := TAG h hR (hmo.2.1 _ (List.mem_map.2 ⟨_, hmem, rfl⟩)) (ht1 _ (List.mem_map.2 ⟨_, hmem, rfl⟩)) (by simp at ht2 ⊢; omega)
      have e : ((m.take j).map fun x => (x.1, x.2.2)) ++ [(m[j].1, m[j].2.2)] = (m.take (j + 1)).map fun x => (x.1, x.2.2) := by
        rw [List.take_succ_eq_append_getElem hj', List.map_append]
        rfl
      rw [e] at T
      simp only [List.getElem_map]
      exact T)
  refine E.mono ?_
  rintro e W' ⟨he, J', ⟨u, q1, q2, -, -, -⟩, -, hch⟩
  rw [List.length_map, List.take_length] at q2
  exact ⟨he, u, q1, q2, hch.keep1 (by simp)⟩
end Go.Proofs.YtdklogmmfnddiaaDoor
/-
  Lists of trees in a block of their own; five cells set at once.
-/
namespace Go.Proofs.YtdklogmmfnddiaaDoor
open Go.ChangeShapes Go.WideShapes Go.ChangeAt Go.RowKit

/-- trees that lie in a block of their own -/
theorem HTs.block {w : World} {G : Nat → Prop} {b n : Nat} {l : List T} {cs : List (List Value)} {arr : Array Value} {t : TypeId} {z : Nat × Nat} (h : w.heap[b]? = some (.cells arr t z)) (ha : arr.toList = cs.flatten) (hG : G b) (hn : n = l.length) (h1 : cs.length = l.length) (h2 : ∀ i (a : i < l.length) (c : i < cs.length), HT w G l[i] cs[i]) (h3 : l.length ≤ 1099511627776) :
    HTs w G (.slice (some ⟨b, 0, none⟩) n n) l := by
  subst hn
  refine ⟨cs, h1, h2, Nat.le_trans h3 (by decide), _, _, by rw [h1], by omega, (fun h => by cases h), fun a ha' => ?_⟩
  cases ha'
  refine ⟨fun _ => rfl, fun i hi => ⟨hG, ?_⟩⟩
  have e : cs.flatten[i]? = some cs.flatten[i] := List.getElem?_eq_getElem hi
  rw [← e, ← ha]
  simp [World.cell?, h]
theorem set5 {w : World} {b o : Nat} {c : Array Value} {t : TypeId} {z0 : Nat × Nat} {z s n l u : Value} (h : w.heap[b]? = some (.cells c t z0)) :
    (((((w.setCell ⟨b, o, none⟩ z).setCell ⟨b, o + 1, none⟩ s).setCell ⟨b, o + 2, none⟩ n).setCell ⟨b, o + 3, none⟩ l).setCell ⟨b, o + 4, none⟩ u).heap[b]? = some (.cells (((((c.setIfInBounds o z).setIfInBounds (o + 1) s).setIfInBounds (o + 2) n).setIfInBounds (o + 3) l).setIfInBounds (o + 4) u) t z0) ∧
    Keep [b] w (((((w.setCell ⟨b, o, none⟩ z).setCell ⟨b, o + 1, none⟩ s).setCell ⟨b, o + 2, none⟩ n).setCell ⟨b, o + 3, none⟩ l).setCell ⟨b, o + 4, none⟩ u) :=
  ⟨heap_set (heap_set (heap_set (heap_set (heap_set h z) s) n) l) u, (((((Keep.refl _ _).setCell (.inl (by simp)) _).setCell (.inl (by simp)) _).setCell (.inl (by simp)) _).setCell (.inl (by simp)) _).setCell (.inl (by simp)) _⟩
end Go.Proofs.YtdklogmmfnddiaaDoor
/-
  impl.textTree; octets of a text.
-/
namespace Go.Proofs.YtdklogmmfnddiaaDoor
open Go.ChangeShapes Go.WideShapes Go.ChangeAt Go.RowKit

theorem bytes_rb (w : World) (l : Bs) (cap : Nat) (e : TypeId) (fr : Nat × Nat) (hc : l.length ≤ cap) : RB (w.drew.alloc (.cells (bytesRow ⟨l.toArray⟩ cap) e fr)) (fun k => k = w.heap.size) (.slice (some ⟨w.heap.size, 0, none⟩) l.length cap) l := by
  refine ⟨_, cap, rfl, hc, (fun h => by cases h), fun a ha => ?_⟩
  cases ha
  refine ⟨fun _ => rfl, fun i hi => ⟨rfl, ?_⟩⟩
  have hb : (w.drew.alloc (.cells (bytesRow ⟨l.toArray⟩ cap) e fr)).heap[w.heap.size]? = some (.cells (bytesRow ⟨l.toArray⟩ cap) e fr) := by
    show (w.heap.push _)[w.heap.size]? = _
    simp
  have hi' : i < (⟨l.toArray⟩ : ByteArray).data.size := by simpa using hi
  have h := bytesRow_at ⟨l.toArray⟩ cap i hi'
  simp only [World.cell?, hb, Nat.zero_add]
  simpa [bv] using h
end Go.Proofs.YtdklogmmfnddiaaDoor
/-
  impl.boolTree.
-/
namespace Go.Proofs.YtdklogmmfnddiaaDoor
open Go.ChangeShapes Go.WideShapes Go.ChangeAt Go.RowKit

set_option maxHeartbeats 800000 in
set_option maxRecDepth 100000 in
theorem btree_any (b : Bool) (w : World) :
    Calls Tryd.prog 50 #[.bool b] w fun e w' => ∃ c, e = .returned (.agg c.toArray) ∧ HT w' (fun k => w.heap.size ≤ k ∧ k < w'.heap.size) (.mk (if b then 1 else 0) [] false [] []) c ∧ Keep [] w w' := by
  cases b with
  | true =>
    go_enter Tryd.func50, Tryd.ntmps50
    go_wp2_with fail
    refine bodyPost_ret (v := .agg #[.int .i64 1, .slice none 0 0, .bool false, .slice none 0 0, .slice none 0 0]) (by simp [results, Tryd.results50, go_sem]) rfl ⟨[.int .i64 1, .slice none 0 0, .bool false, .slice none 0 0, .slice none 0 0], rfl, ?_, ?_⟩
    · exact HT.of 1 [] false [] [] (RB.nil _ _) (HTs.nil _ _) (HGs.nil _ _) (by decide) (by decide) (by decide) (by decide)
    · first | exact Keep.refl _ _ | exact keep_box _ | exact (keep_box _).alloc _
  | false =>
    go_enter Tryd.func50, Tryd.ntmps50
    go_wp2_with fail
    refine bodyPost_ret (v := .agg #[.int .i64 0, .slice none 0 0, .bool false, .slice none 0 0, .slice none 0 0]) (by simp [results, Tryd.results50, go_sem]) rfl ⟨[.int .i64 0, .slice none 0 0, .bool false, .slice none 0 0, .slice none 0 0], rfl, ?_, ?_⟩
    · exact HT.of 0 [] false [] [] (RB.nil _ _) (HTs.nil _ _) (HGs.nil _ _) (by decide) (by decide) (by decide) (by decide)
    · first | exact Keep.refl _ _ | exact keep_box _ | exact (keep_box _).alloc _
theorem btree_body : Tryd.f50.body.isNone = false := by kernel_rfl
theorem btree_name : (Tryd.f50.name == "runtime.NumGoroutine") = false := by kernel_rfl
end Go.Proofs.YtdklogmmfnddiaaDoor
/-
  THE ROUND TRIP, in plain Lean: what the reference writes of a tree is read back, and what was read is written again.
-/
namespace Go.Proofs.YtdklogmmfnddiaaDoor

theorem emod_mul' (n a b : Int) (ha : 0 ≤ a) : n % (a * b) = n % a + a * (n / a % b) := by
  rw [Int.emod_def, Int.emod_def n a, Int.emod_def (n / a) b, Int.ediv_ediv_of_nonneg ha, Int.mul_sub, Int.mul_assoc]
  omega
theorem pow2_nn (k : Nat) : (0 : Int) ≤ 2 ^ k := Int.le_of_lt (Int.pow_pos (by decide))
theorem oct_nat (n : Int) (k : Nat) : (oct n k).toNat = (n / 2 ^ (8 * k) % 256).toNat := by
  unfold oct
  have h1 : 0 ≤ (n / 2 ^ (8 * k)) % 256 := Int.emod_nonneg _ (by decide)
  have h2 : (n / 2 ^ (8 * k)) % 256 < 256 := Int.emod_lt_of_pos _ (by decide)
  simp only [UInt8.toNat_ofNat']
  omega
theorem be_app : ∀ (l : Bs) (n : Nat), l.foldl (fun n b => 256 * n + b.toNat) n = 256 ^ l.length * n + be l
  | [], n => by simp [be]
  | b :: r, n => by
    have h1 := be_app r (256 * n + b.toNat)
    have h2 := be_app r (256 * 0 + b.toNat)
    simp only [be, List.foldl_cons, List.length_cons] at *
    rw [h1, h2, Nat.pow_succ]
    rw [Nat.mul_add, Nat.mul_add, Nat.mul_assoc]
    omega
theorem be_fixed (n : Int) : ∀ k, ((be (fixedP n k) : Nat) : Int) = n % 2 ^ (8 * k)
  | 0 => by simp [be, fixedP, Int.emod_one]
  | k + 1 => by
    have ih := be_fixed n k
    have h := be_app (fixedP n k) (256 * 0 + (oct n k).toNat)
    simp only [be, fixedP, List.foldl_cons] at *
    rw [h, fixedP_len, oct_nat]
    have h1 : 0 ≤ (n / 2 ^ (8 * k)) % 256 := Int.emod_nonneg _ (by decide)
    have e : (256 : Int) ^ k = 2 ^ (8 * k) := by rw [Int.pow_mul]; rfl
    rw [Int.natCast_add, Int.natCast_mul, ih, show 256 * 0 + (n / 2 ^ (8 * k) % 256).toNat = (n / 2 ^ (8 * k) % 256).toNat by omega, Int.toNat_of_nonneg h1, show ((256 ^ k : Nat) : Int) = (256 : Int) ^ k by simp, e, Nat.mul_add, Int.pow_add]
    have e3 : n % (2 ^ (8 * k) * 2 ^ (8 * 1)) = n % 2 ^ (8 * k) + 2 ^ (8 * k) * (n / 2 ^ (8 * k) % 256) := by
      rw [emod_mul' _ _ _ (pow2_nn _)]; rfl
    rw [e3]; omega
theorem rdN_fixed (n : Int) (k : Nat) (r : Bs) : rdN k (fixedP n k ++ r, false) = ((n % 2 ^ (8 * k)).toNat, (r, false)) := by
  have h := be_fixed n k
  have hl := fixedP_len n k
  simp only [rdN, List.length_append, hl, if_neg (show ¬ k + r.length < k by omega)]
  rw [List.take_left' hl, List.drop_left' hl]
  congr 1
  omega
/-- a number as so many octets have it, with a sign -/
def wrapN (k : Nat) (n : Int) : Int := sgn k (n % 2 ^ (8 * k)).toNat
theorem rdI_fixed (n : Int) (k : Nat) (r : Bs) : rdI k (fixedP n k ++ r, false) = (wrapN k n, (r, false)) := by
  simp only [rdI, rdN_fixed, wrapN]
theorem fixed_wrap1 (n : Int) (k : Nat) : ∀ j, j ≤ k → fixedP (n % 2 ^ (8 * k)) j = fixedP n j
  | 0, _ => rfl
  | j + 1, h => by
    have ih := fixed_wrap1 n k j (by omega)
    simp only [fixedP, ih]
    congr 1
    have e : (n % 2 ^ (8 * k)) / 2 ^ (8 * j) % 256 = n / 2 ^ (8 * j) % 256 := by
      have e1 : (2 : Int) ^ (8 * k) = 2 ^ (8 * j) * (256 * 2 ^ (8 * (k - j - 1))) := by
        rw [show 8 * k = 8 * j + (8 + 8 * (k - j - 1)) by omega, Int.pow_add, Int.pow_add]; rfl
      have e2 : (0 : Int) < 2 ^ (8 * j) := Int.pow_pos (by decide)
      generalize (2 : Int) ^ (8 * (k - j - 1)) = c at *
      generalize (2 : Int) ^ (8 * j) = d at *
      rw [e1, emod_mul' _ _ _ (by omega), Int.add_mul_ediv_left _ _ (by omega), Int.emod_def n d]
      rw [show (n - d * (n / d)) / d = 0 from ?_]
      · rw [Int.zero_add, emod_mul' _ _ _ (by decide), Int.add_mul_emod_self_left, Int.emod_emod_of_dvd _ (by decide)]
      · rw [← Int.emod_def]
        exact Int.ediv_eq_zero_of_lt (Int.emod_nonneg _ (by omega)) (Int.emod_lt_of_pos _ e2)
    unfold oct
    rw [e]
/-- in at most so many groups -/
theorem uvAt_var : ∀ (j k acc n : Nat) (r : Bs), k + j = 4 → n < 2 ^ (32 - 7 * k) → uvAt k acc (uvarP n ++ r) = (acc + n * 2 ^ (7 * k), (k : Int) + ((uvarP n).length : Nat)) ∧ 0 < (uvarP n).length
  | 0, k, acc, n, r, hk, hn => by
    obtain rfl : k = 4 := by omega
    have hn' : n < 16 := by simpa using hn
    rw [uvarP_small (by omega)]
    have e : (UInt8.ofNat n).toNat = n := by simp only [UInt8.toNat_ofNat']; omega
    simp only [List.cons_append, List.nil_append, uvAt, if_true, e]
    rw [if_pos (by omega)]
    simp
  | j + 1, k, acc, n, r, hk, hn => by
    by_cases h : 127 < n
    · rw [uvarP_big h]
      have e : (UInt8.ofNat (n % 128 + 128)).toNat = n % 128 + 128 := by simp only [UInt8.toNat_ofNat']; omega
      have ih := uvAt_var j (k + 1) (acc + n % 128 * 2 ^ (7 * k)) (n / 128) r (by omega) (by
        have : 2 ^ (32 - 7 * k) = 128 * 2 ^ (32 - 7 * (k + 1)) := by
          rw [show 32 - 7 * k = 7 + (32 - 7 * (k + 1)) by omega, Nat.pow_add]
        omega)
      simp only [List.cons_append, uvAt, e, List.length_cons]
      rw [if_neg (by omega), if_neg (by omega), show (n % 128 + 128) % 128 = n % 128 by omega, ih.1]
      refine ⟨?_, by omega⟩
      congr 1
      · have e2 : 2 ^ (7 * (k + 1)) = 128 * 2 ^ (7 * k) := by
          rw [show 7 * (k + 1) = 7 + 7 * k by omega, Nat.pow_add]
        rw [e2, ← Nat.mul_assoc, Nat.add_assoc, ← Nat.add_mul]
        congr 2
        omega
      · push_cast; omega
    · rw [uvarP_small h]
      have e : (UInt8.ofNat n).toNat = n := by simp only [UInt8.toNat_ofNat']; omega
      simp only [List.cons_append, List.nil_append, uvAt, e]
      rw [if_neg (by omega), if_pos (by omega)]
      simp
theorem rdUv_var {n : Nat} (h : n < 4294967296) (r : Bs) : rdUv (uvarP n ++ r, false) = (n, (r, false)) := by
  have h1 := uvAt_var 4 0 0 n r rfl (by simpa using h)
  have h2 := h1.2
  have h3 := h1.1
  simp only [Nat.zero_add, Nat.mul_zero, Nat.pow_zero, Nat.mul_one] at h3
  have e : uvP (uvarP n ++ r) = (n, ((uvarP n).length : Int)) := by unfold uvP; rw [h3]; simp
  simp only [rdUv, e]
  rw [if_neg (by omega)]
  simp
theorem rdSpan_app (x r : Bs) {n : Int} (hn : n = x.length) : rdSpan n (x ++ r, false) = (x, (r, false)) := by
  subst hn
  simp only [rdSpan, List.length_append]
  rw [if_neg (by omega)]
  simp
/-- what a tag is, written -/
def tagP (u : Tg) : Bs := uvarP u.1 ++ uvarP u.2.length ++ u.2
theorem insK_end {α : Type} (x : Nat × α) : ∀ l : List (Nat × α), (∀ y ∈ l, y.1 < x.1) → insK x l = l ++ [x]
  | [], _ => rfl
  | y :: r, h => by
    have h1 := h y (by simp)
    simp only [insK, if_neg (show ¬ x.1 < y.1 by omega), List.cons_append]
    rw [insK_end x r (fun z hz => h z (by simp [hz]))]
theorem putK_end {α : Type} (k : Nat) (x : α) (l : List (Nat × α)) (h : ∀ y ∈ l, y.1 < k) : putK l k x = l ++ [(k, x)] := by
  unfold putK
  rw [List.filter_eq_self.2 (fun y hy => by have := h y hy; simp; omega)]
  exact insK_end _ _ h
theorem rdTagsN_app : ∀ (us acc : List Tg) (r : Bs), Rising (acc ++ us) → (∀ u ∈ us, u.1 < 4294967296 ∧ u.2.length < 4294967296) → rdTagsN us.length ((us.map tagP).flatten ++ r, false) acc = (acc ++ us, (r, false))
  | [], acc, r, _, _ => by simp [rdTagsN]
  | u :: us, acc, r, h, hb => by
    obtain ⟨b1, b2⟩ := hb u (by simp)
    have hl : ∀ y ∈ acc, y.1 < u.1 := fun y hy => by
      unfold Rising at h
      exact (List.pairwise_append.1 h).2.2 y hy u (by simp)
    have e1 : ((u :: us).map tagP).flatten ++ r = uvarP u.1 ++ (uvarP u.2.length ++ (u.2 ++ ((us.map tagP).flatten ++ r))) := by
      simp [tagP]
    rw [e1]
    simp only [List.length_cons, rdTagsN, rdUv_var b1, rdUv_var b2, rdSpan_app u.2 _ rfl]
    rw [putK_end _ _ _ hl, rdTagsN_app us (acc ++ [(u.1, u.2)]) r (by simpa using h) (fun v hv => hb v (by simp [hv]))]
    simp
theorem rdTags_app (us : List Tg) (r : Bs) (h : Rising us) (hb : ∀ u ∈ us, u.1 < 4294967296 ∧ u.2.length < 4294967296) (hn : us.length < 4294967296) :
    rdTags (uvarP us.length ++ ((us.map tagP).flatten ++ r), false) = (us, (r, false)) := by
  simp only [rdTags, rdUv_var hn]
  exact rdTagsN_app us [] r (by simpa using h) hb
/-! unknown tags -/
theorem spot_le (out : List Tg) (k : Nat) : spot out k ≤ out.length := by
  unfold spot; exact (List.takeWhile_prefix _).length_le
theorem take_spot (out : List Tg) (k : Nat) : out.take (spot out k) = out.takeWhile (fun x => x.1 < k) := by
  induction out with
  | nil => rfl
  | cons y r ih =>
    simp only [spot, List.takeWhile_cons] at *
    split
    · simp [ih]
    · simp
theorem drop_spot (out : List Tg) (k : Nat) : out.drop (spot out k) = out.dropWhile (fun x => x.1 < k) := by
  induction out with
  | nil => rfl
  | cons y r ih =>
    simp only [spot, List.takeWhile_cons, List.dropWhile_cons] at *
    split
    · simp [ih]
    · simp
theorem rising_ins {out : List Tg} (h : Rising out) (t : Tg) : Rising (ins out t) := by
  unfold ins
  split
  · exact h
  · rename_i hn
    have hs : out = out.take (spot out t.1) ++ out.drop (spot out t.1) := (List.take_append_drop _ _).symm
    have e1 := take_spot out t.1
    have e2 := drop_spot out t.1
    have h1 : ∀ y ∈ out.take (spot out t.1), y.1 < t.1 := fun y hy => by
      rw [e1] at hy
      have := List.all_eq_true.1 (List.all_takeWhile (p := fun x : Tg => decide (x.1 < t.1)) (l := out)) y hy
      simpa using this
    have h2 : ∀ y ∈ out.drop (spot out t.1), t.1 < y.1 := by
      cases hd : out.drop (spot out t.1) with
      | nil => simp
      | cons z r =>
        have hz : out[spot out t.1]? = some z := by
          have := List.getElem?_drop (xs := out) (i := spot out t.1) (j := 0)
          rw [hd] at this
          simpa using this.symm
        have hz1 : ¬ z.1 = t.1 := by
          rw [hz] at hn
          simpa using hn
        have hz2 : ¬ z.1 < t.1 := by
          have : out.dropWhile (fun x => x.1 < t.1) = z :: r := by rw [← e2, hd]
          intro hlt
          have h3 := List.head?_dropWhile_not (fun x : Tg => decide (x.1 < t.1)) out
          rw [this] at h3
          simp at h3
          omega
        have hp : Rising (z :: r) := by
          have : (out.drop (spot out t.1)).Pairwise (fun a b => a.1 < b.1) := List.Pairwise.sublist (List.drop_sublist _ _) h
          rwa [hd] at this
        intro y hy
        rcases List.mem_cons.1 hy with rfl | hy
        · omega
        · have := (List.pairwise_cons.1 hp).1 y hy
          omega
    unfold Rising at *
    rw [List.pairwise_append, List.pairwise_cons]
    refine ⟨List.Pairwise.sublist (List.take_sublist _ _) h, ⟨fun y hy => h2 y hy, List.Pairwise.sublist (List.drop_sublist _ _) h⟩, fun a ha b hb => ?_⟩
    rcases List.mem_cons.1 hb with rfl | hb
    · exact h1 a ha
    · have := h1 a ha
      have := h2 b hb
      omega
theorem mem_ins {out : List Tg} {t x : Tg} (h : x ∈ ins out t) : x = t ∨ x ∈ out := by
  unfold ins at h
  split at h
  · exact .inr h
  · rcases List.mem_append.1 h with h | h
    · exact .inr (List.mem_of_mem_take h)
    · rcases List.mem_cons.1 h with h | h
      · exact .inl h
      · exact .inr (List.mem_of_mem_drop h)
theorem len_ins (out : List Tg) (t : Tg) : (ins out t).length ≤ out.length + 1 := by
  unfold ins
  split
  · omega
  · simp; have := spot_le out t.1; omega
theorem unknownFrom_spec (least : Nat) : ∀ (l out : List Tg), Rising out → Rising (l.foldl (fun out t => if t.1 < least then out else ins out t) out) ∧
    (∀ x ∈ l.foldl (fun out t => if t.1 < least then out else ins out t) out, x ∈ l ∨ x ∈ out) ∧ (l.foldl (fun out t => if t.1 < least then out else ins out t) out).length ≤ l.length + out.length
  | [], out, h => ⟨h, fun x hx => .inr hx, by simp⟩
  | t :: r, out, h => by
    simp only [List.foldl_cons]
    by_cases hk : t.1 < least
    · rw [if_pos hk]
      obtain ⟨a, b, c⟩ := unknownFrom_spec least r out h
      exact ⟨a, fun x hx => (b x hx).imp (fun h => by simp [h]) id, by simp; omega⟩
    · rw [if_neg hk]
      obtain ⟨a, b, c⟩ := unknownFrom_spec least r (ins out t) (rising_ins h t)
      refine ⟨a, fun x hx => ?_, by have := len_ins out t; simp; omega⟩
      rcases b x hx with h | h
      · exact .inl (by simp [h])
      · rcases mem_ins h with h | h
        · exact .inl (by simp [h])
        · exact .inr h
theorem unknownP_spec (fs : List F) (l : List Tg) : Rising (unknownP fs l) ∧ (∀ x ∈ unknownP fs l, x ∈ l) ∧ (unknownP fs l).length ≤ 32767 := by
  obtain ⟨a, b, c⟩ := unknownFrom_spec (knownP fs) (l.take 32767) [] List.Pairwise.nil
  refine ⟨a, fun x hx => ?_, ?_⟩
  · rcases b x hx with h | h
    · exact List.mem_of_mem_take h
    · cases h
  · simp at c
    unfold unknownP unknownFrom
    omega
/-- what is told of unknown tags -/
def tdU (fs : List F) (u : List Tg) : List Tg := (unknownP fs u).map fun x => (x.1, whole x.2)
theorem tdU_rising (fs : List F) (u : List Tg) : Rising (tdU fs u) := by
  unfold tdU Rising
  rw [List.pairwise_map]
  exact (unknownP_spec fs u).1
theorem tdU_len (fs : List F) (u : List Tg) : (tdU fs u).length ≤ 32767 := by
  simpa [tdU] using (unknownP_spec fs u).2.2
theorem tdU_mem {fs : List F} {u : List Tg} (hu : ∀ x ∈ u, x.1 < 4294967296) : ∀ x ∈ tdU fs u, x.1 < 4294967296 ∧ x.2.length ≤ 32767 := by
  intro x hx
  unfold tdU at hx
  obtain ⟨y, hy, rfl⟩ := List.mem_map.1 hx
  refine ⟨hu y ((unknownP_spec fs u).2.1 y hy), ?_⟩
  simp [whole]; omega
theorem tdU_tags (fs : List F) (u : List Tg) : (unknownP fs u).map (fun u => uvarP u.1 ++ uvarP (whole u.2).length ++ whole u.2) = (tdU fs u).map tagP := by
  simp [tdU, tagP]
/-! what is told of what was written -/
def tdK (kind : Int) (part : T → T) (null : Bool) (t : T) : T :=
  if kind = 0 then .mk (t.n % 2) [] false [] []
  else if kind = 1 then .mk (wrapN 1 t.n) [] false [] []
  else if kind = 2 then .mk (wrapN 2 t.n) [] false [] []
  else if kind = 3 then .mk (wrapN 4 t.n) [] false [] []
  else if kind = 4 then .mk (wrapN 8 t.n) [] false [] []
  else if kind = 5 then .mk (t.n % 65536) [] false [] []
  else if kind = 6 then .mk (wrapN 8 t.n) [] false [] []
  else if kind = 7 then .mk 0 (pad16 t.s) false [] []
  else if kind = 8 then (if null then nstrT none else .mk 0 (whole t.s) false [] [])
  else if kind = 9 then octT (if null then none else some (whole t.s))
  else if kind = 10 then part t
  else T.zero
mutual
def tdF : F → Int → Bool → T → T
  | .mk k a b nul tag dfl ofk sub, v, flex, t =>
    if k = 11 then .mk 0 [] (if nul < 0 then (things t.l).isEmpty else F.isNull (.mk k a b nul tag dfl ofk sub) v t) ((if F.isNull (.mk k a b nul tag dfl ofk sub) v t then [] else things t.l).map (tdK ofk (fun t => .mk 0 [] false (tdFs sub 0 v flex t) (if flex then tdU sub t.u else [])) false)) []
    else tdK k (fun t => .mk 0 [] false (tdFs sub 0 v flex t) (if flex then tdU sub t.u else [])) (F.isNull (.mk k a b nul tag dfl ofk sub) v t) t
def tdFs : List F → Nat → Int → Bool → T → List T
  | [], _, _, _, _ => []
  | f :: r, i, v, flex, t => (if f.has v then tdF f v flex (atT t i) else dflF f) :: tdFs r (i + 1) v flex t
end
def tdPart (fs : List F) (v : Int) (flex : Bool) (t : T) : T := .mk 0 [] false (tdFs fs 0 v flex t) (if flex then tdU fs t.u else [])

/-- fields' octets, one behind another -/
def plainAt : List F → Nat → Int → Bool → T → Bs
  | [], _, _, _, _ => []
  | f :: r, i, v, flex, t => (if f.has v then fieldP f v flex (atT t i) else []) ++ plainAt r (i + 1) v flex t
def untagged : List F → Bool
  | [] => true
  | f :: r => decide (f.tag < 0) && untagged r
theorem plainAt_eq : ∀ (fs : List F) (i : Nat) (v : Int) (flex : Bool) (t : T), untagged fs = true →
    (((fieldsP fs v flex).zipIdx i).filter fun x => decide (x.1.1.tag < 0) && x.1.1.has v).flatMap (fun x => x.1.2 (atT t x.2)) = plainAt fs i v flex t
  | [], _, _, _, _, _ => by simp [fieldsP, plainAt]
  | f :: r, i, v, flex, t, h => by
    simp only [untagged, Bool.and_eq_true, decide_eq_true_eq] at h
    have ih := plainAt_eq r (i + 1) v flex t h.2
    simp only [fieldsP, List.zipIdx_cons, List.filter_cons, plainAt]
    by_cases hv : f.has v = true
    · simp only [hv, h.1, decide_true, Bool.and_self, if_true, List.flatMap_cons, ih]
    · simp only [hv, Bool.and_false, Bool.false_eq_true, if_false, ih, List.nil_append]
theorem known0 : ∀ (fs : List F) (n : Nat), untagged fs = true → fs.foldl (fun n f => if 0 ≤ f.tag then max n (f.tag.toNat + 1) else n) n = n
  | [], _, _ => rfl
  | f :: r, n, h => by
    simp only [untagged, Bool.and_eq_true, decide_eq_true_eq] at h
    simp only [List.foldl_cons]
    rw [if_neg (by omega)]
    exact known0 r n h.2
theorem partP_untagged {fs : List F} (h : untagged fs = true) (v : Int) (flex : Bool) (t : T) :
    partP fs v flex t = if flex then plainAt fs 0 v flex t ++ (uvarP (tdU fs t.u).length ++ ((tdU fs t.u).map tagP).flatten) else plainAt fs 0 v flex t := by
  have e : (fieldsP fs v flex).map (·.1) = fs := by
    rw [fieldsP_map, List.map_map]
    exact (congrArg (fun g => List.map g fs) (show ((fun x : F × (T → Bs) => x.1) ∘ fun f => (f, fieldP f v flex)) = id from rfl)).trans (List.map_id fs)
  have k : knownP fs = 0 := known0 fs 0 h
  unfold partP partOf
  rw [e, k, tdU_tags]
  simp only [plainAt_eq fs 0 v flex t h]
  cases flex <;> simp
/-- a field that every version has, of at least an octet -/
def sureF : F → Bool
  | .mk k a b _ _ _ _ _ => decide (a ≤ 0) && decide (b < 0) && decide (k ≠ 10)
def kindOk (k : Int) : Bool := decide (0 ≤ k) && decide (k ≤ 9)
mutual
/-- a field as the round trip takes it -/
def wfF (flex : Bool) : F → Bool
  | .mk k _ _ nul tag _ ofk sub => decide (tag < 0) && wfFs flex sub && (if k = 11 then kindOk ofk || (decide (ofk = 10) && (flex || sub.any sureF)) else if k = 10 then decide (nul < 0) else kindOk k)
def wfFs (flex : Bool) : List F → Bool
  | [] => true
  | f :: r => wfF flex f && wfFs flex r
end
theorem wfFs_untagged {flex : Bool} : ∀ {fs : List F}, wfFs flex fs = true → untagged fs = true
  | [], _ => rfl
  | .mk k a b nul tag dfl ofk sub :: r, h => by
    simp only [wfFs, wfF, Bool.and_eq_true] at h
    simp only [untagged, F.tag, Bool.and_eq_true]
    exact ⟨h.1.1.1, wfFs_untagged h.2⟩
theorem rdTimes_front (g : St → T × St) : ∀ (n : Nat) (s : St), rdTimes g (n + 1) s = ((g s).1 :: (rdTimes g n (g s).2).1, (rdTimes g n (g s).2).2)
  | 0, s => rfl
  | n + 1, s => by
    rw [rdTimes, rdTimes_front g n s]
    rfl
theorem rdTimes_app {g : St → T × St} {enc : T → Bs} {td : T → T} : ∀ (l : List T) (r : Bs), (∀ x ∈ l, ∀ r, g (enc x ++ r, false) = (td x, (r, false))) → rdTimes g l.length (l.flatMap enc ++ r, false) = (l.map td, (r, false))
  | [], r, _ => rfl
  | x :: l, r, h => by
    rw [List.length_cons, rdTimes_front, List.flatMap_cons, List.append_assoc, h x (by simp)]
    simp only
    rw [rdTimes_app l r (fun y hy => h y (by simp [hy]))]
    rfl
theorem flatMap_long {enc : T → Bs} : ∀ (l : List T), (∀ x ∈ l, 0 < (enc x).length) → l.length ≤ (l.flatMap enc).length
  | [], _ => by simp
  | x :: l, h => by
    have h1 := h x (by simp)
    have h2 := flatMap_long l (fun y hy => h y (by simp [hy]))
    simp only [List.flatMap_cons, List.length_append, List.length_cons]
    omega
theorem things_len (l : List T) : (things l).length ≤ 32767 := by simp [things]; omega
theorem wrapN_small {k n : Nat} (hk : k = 2 ∨ k = 4) (h : n ≤ 32767) : wrapN k (n : Int) = n := by
  unfold wrapN sgn
  rcases hk with rfl | rfl
  · rw [show (2 : Int) ^ (8 * 2) = 65536 by decide, show (2 : Nat) ^ (8 * 2 - 1) = 32768 by decide, if_pos (by omega)]
    omega
  · rw [show (2 : Int) ^ (8 * 4) = 4294967296 by decide, show (2 : Nat) ^ (8 * 4 - 1) = 2147483648 by decide, if_pos (by omega)]
    omega
theorem wrapN_m1 {k : Nat} (hk : k = 2 ∨ k = 4) : wrapN k (-1) = -1 := by
  rcases hk with rfl | rfl <;> decide
theorem uvarP_pos (n : Nat) : 0 < (uvarP n).length := by
  by_cases h : 127 < n
  · rw [uvarP_big h]; simp
  · rw [uvarP_small h]; simp
/-- a text -/
theorem rdStr_app (x r : Bs) (h : x.length ≤ 32767) : rdStr (fixedP x.length 2 ++ (x ++ r), false) = (x, (r, false)) := by
  simp only [rdStr, rdI_fixed, wrapN_small (.inl rfl) h]
  exact rdSpan_app x r rfl
theorem rdCStr_app (x r : Bs) (h : x.length ≤ 32767) : rdCStr (uvarP (x.length + 1) ++ (x ++ r), false) = (x, (r, false)) := by
  simp only [rdCStr, rdUv_var (show x.length + 1 < 4294967296 by omega)]
  exact rdSpan_app x r (by omega)
theorem rdNStr_some (x r : Bs) (h : x.length ≤ 32767) : rdNStr (fixedP x.length 2 ++ (x ++ r), false) = (some x, (r, false)) := by
  simp only [rdNStr, rdI_fixed, wrapN_small (.inl rfl) h, rdStr_app x r h]
  rw [if_neg (by omega)]
theorem rdNStr_none (r : Bs) : rdNStr (fixedP (-1) 2 ++ r, false) = (none, (r, false)) := by
  simp only [rdNStr, rdI_fixed, wrapN_m1 (.inl rfl)]
  rfl
theorem rdCNStr_some (x r : Bs) (h : x.length ≤ 32767) : rdCNStr (uvarP (x.length + 1) ++ (x ++ r), false) = (some x, (r, false)) := by
  simp only [rdCNStr, rdUv_var (show x.length + 1 < 4294967296 by omega), rdCStr_app x r h]
  rw [if_neg (by omega)]
theorem rdCNStr_none (r : Bs) : rdCNStr (0 :: r, false) = (none, (r, false)) := by
  have e : (0 : UInt8) :: r = uvarP 0 ++ r := by rw [uvarP_small (by omega)]; rfl
  rw [e]
  simp only [rdCNStr, rdUv_var (show (0 : Nat) < 4294967296 by omega)]
  rfl
/-- octets -/
theorem rdSpO_app (x r : Bs) {n : Int} (hn : n = x.length) : rdSpO n (x ++ r, false) = (some x, (r, false)) := by
  unfold rdSpO
  rw [rdSpan_app x r hn]
  rfl
theorem rdBy_app (x r : Bs) (h : x.length ≤ 32767) : rdBy (fixedP x.length 4 ++ (x ++ r), false) = (some x, (r, false)) := by
  simp only [rdBy, rdI_fixed, wrapN_small (.inr rfl) h]
  rw [if_neg (by omega)]
  exact rdSpO_app x r rfl
theorem rdNBy_some (x r : Bs) (h : x.length ≤ 32767) : rdNBy (fixedP x.length 4 ++ (x ++ r), false) = (some x, (r, false)) := by
  simp only [rdNBy, rdI_fixed, wrapN_small (.inr rfl) h]
  rw [if_neg (by omega)]
  exact rdSpO_app x r rfl
theorem rdNBy_none (r : Bs) : rdNBy (fixedP (-1) 4 ++ r, false) = (none, (r, false)) := by
  simp only [rdNBy, rdI_fixed, wrapN_m1 (.inr rfl)]
  rfl
theorem rdCBy_app (x r : Bs) (h : x.length ≤ 32767) : rdCBy (uvarP (x.length + 1) ++ (x ++ r), false) = (some x, (r, false)) := by
  simp only [rdCBy, rdUv_var (show x.length + 1 < 4294967296 by omega)]
  rw [if_neg (by omega)]
  exact rdSpO_app x r (by omega)
theorem rdCNBy_some (x r : Bs) (h : x.length ≤ 32767) : rdCNBy (uvarP (x.length + 1) ++ (x ++ r), false) = (some x, (r, false)) := by
  simp only [rdCNBy, rdUv_var (show x.length + 1 < 4294967296 by omega)]
  rw [if_neg (by omega)]
  exact rdSpO_app x r (by omega)
theorem rdCNBy_none (r : Bs) : rdCNBy (0 :: r, false) = (none, (r, false)) := by
  have e : (0 : UInt8) :: r = uvarP 0 ++ r := by rw [uvarP_small (by omega)]; rfl
  rw [e]
  simp only [rdCNBy, rdUv_var (show (0 : Nat) < 4294967296 by omega)]
  rfl
theorem rdLen_app {n : Nat} {r : Bs} (h : n ≤ 32767) (hr : n ≤ r.length) : rdLen (fixedP n 4 ++ r, false) = ((n : Int), (r, false)) := by
  simp only [rdLen, rdI_fixed, wrapN_small (.inr rfl) h]
  rw [if_neg (by omega)]
theorem rdLen_null (r : Bs) : rdLen (fixedP (-1) 4 ++ r, false) = (-1, (r, false)) := by
  simp only [rdLen, rdI_fixed, wrapN_m1 (.inr rfl)]
  rw [if_neg (by omega)]
theorem i32_small {n : Int} (h0 : -10 ≤ n) (h1 : n ≤ 32768) : IntKind.i32.wrap n = n := by
  rw [IntKind.wrap_i32]
  omega
theorem rdCLen_app {n : Nat} {r : Bs} (h : n ≤ 32767) (hr : n ≤ r.length) : rdCLen (uvarP (n + 1) ++ r, false) = ((n : Int), (r, false)) := by
  simp only [rdCLen, rdUv_var (show n + 1 < 4294967296 by omega)]
  rw [i32_small (n := ((n + 1 : Nat) : Int)) (by omega) (by omega), i32_small (by omega) (by omega), if_neg (by omega)]
  congr 1
  omega
theorem rdCLen_null (r : Bs) : rdCLen (0 :: r, false) = (-1, (r, false)) := by
  have e : (0 : UInt8) :: r = uvarP 0 ++ r := by rw [uvarP_small (by omega)]; rfl
  rw [e]
  simp only [rdCLen, rdUv_var (show (0 : Nat) < 4294967296 by omega)]
  rw [show IntKind.i32.wrap (IntKind.i32.wrap ((0 : Nat) : Int) - 1) = -1 from by decide, if_neg (by omega)]
theorem countedP_pos (flex null : Bool) (n size : Nat) (hs : 0 < size) : 0 < (countedP flex null n size).length := by
  unfold countedP
  split
  · simp
  · split
    · exact uvarP_pos _
    · split <;> simp [fixedP_len, hs]
theorem widthP_pos (k : Int) : 0 < widthP k := by
  unfold widthP
  repeat' split
  all_goals decide
theorem valueP_pos {kind : Int} (hk : kindOk kind = true) (part : T → Bs) (null flex : Bool) (t : T) : 0 < (valueP kind part null flex t).length := by
  simp only [kindOk, Bool.and_eq_true, decide_eq_true_eq] at hk
  have h8 := countedP_pos flex null (if null = true then [] else whole t.s).length 2 (by decide)
  unfold valueP
  split
  · simp
  · split
    · simp; omega
    · split
      · rw [List.length_append]; omega
      · split
        · have h9 := countedP_pos flex null (if null = true then [] else whole t.s).length 4 (by decide)
          rw [List.length_append]; omega
        · rw [if_neg (by omega), fixedP_len]
          exact widthP_pos _
theorem fieldP_pos {flex : Bool} {f : F} (hw : wfF flex f = true) (hs : sureF f = true) (v : Int) (t : T) : 0 < (fieldP f v flex t).length := by
  rw [fieldP_eq]
  obtain ⟨k, a, b, nul, tag, dfl, ofk, sub⟩ := f
  simp only [sureF, Bool.and_eq_true, decide_eq_true_eq] at hs
  simp only [wfF, Bool.and_eq_true, decide_eq_true_eq] at hw
  unfold fieldOf
  by_cases h11 : k = 11
  · rw [if_pos (show F.kind (.mk k a b nul tag dfl ofk sub) = 11 from h11), List.length_append]
    have := countedP_pos flex (F.isNull (.mk k a b nul tag dfl ofk sub) v t) (if F.isNull (.mk k a b nul tag dfl ofk sub) v t = true then [] else things t.l).length 4 (by decide)
    omega
  · rw [if_neg (show ¬ F.kind (.mk k a b nul tag dfl ofk sub) = 11 from h11), if_neg (show ¬ (F.kind (.mk k a b nul tag dfl ofk sub) = 10 ∧ 0 ≤ F.nul (.mk k a b nul tag dfl ofk sub)) from fun h => hs.2 h.1)]
    have h2 := hw.2
    rw [if_neg h11, if_neg hs.2] at h2
    exact valueP_pos h2 _ _ _ _
theorem plainAt_pos {flex : Bool} : ∀ (fs : List F) (i : Nat) (v : Int) (t : T), 0 ≤ v → wfFs flex fs = true → fs.any sureF = true → 0 < (plainAt fs i v flex t).length
  | [], _, _, _, _, _, h => by simp at h
  | f :: r, i, v, t, hv, hw, h => by
    simp only [wfFs, Bool.and_eq_true] at hw
    simp only [plainAt, List.length_append]
    rcases Bool.or_eq_true _ _ ▸ (by simpa using h : (sureF f || r.any sureF) = true) with h | h
    · have hh : f.has v = true := by
        obtain ⟨k, a, b, nul, tag, dfl, ofk, sub⟩ := f
        simp only [sureF, Bool.and_eq_true, decide_eq_true_eq] at h
        show (decide (a ≤ v) && (decide (b < 0) || decide (v ≤ b))) = true
        simp
        omega
      rw [if_pos hh]
      have := fieldP_pos hw.1 h v (atT t i)
      omega
    · have := plainAt_pos r (i + 1) v t hv hw.2 h
      omega
theorem partP_pos {flex : Bool} {fs : List F} (hw : wfFs flex fs = true) (h : (flex || fs.any sureF) = true) {v : Int} (hv : 0 ≤ v) (t : T) : 0 < (partP fs v flex t).length := by
  rw [partP_untagged (wfFs_untagged hw)]
  cases flex with
  | true =>
    have := uvarP_pos (tdU fs t.u).length
    simp only [if_true, List.length_append]
    omega
  | false => exact plainAt_pos fs 0 v t hv hw (by simpa using h)

theorem mod2_bool (n : Int) : (if ((UInt8.ofNat (n % 2).toNat).toNat : Int) != 0 then (1 : Int) else 0) = n % 2 := by
  have h : n % 2 = 0 ∨ n % 2 = 1 := by omega
  rcases h with h | h <;> rw [h] <;> rfl
theorem rdN1_cons (b : UInt8) (r : Bs) : rdN 1 (b :: r, false) = (b.toNat, (r, false)) := by
  simp only [rdN, List.length_cons]
  rw [if_neg (by omega)]
  simp [be]
theorem rdUuid_app (s r : Bs) : rdUuid (pad16 s ++ r, false) = (pad16 s, (r, false)) := by
  have hl : (pad16 s).length = 16 := by simp [pad16]; omega
  simp only [rdUuid, rdSpan_app (pad16 s) r (show (16 : Int) = (pad16 s).length by omega)]
  congr 1
  unfold pad16
  rw [List.take_of_length_le (by simp; omega)]
  simp
  omega
theorem u16_fixed (n : Int) (r : Bs) : rdN 2 (fixedP n 2 ++ r, false) = ((n % 65536).toNat, (r, false)) := rdN_fixed n 2 r
theorem rdK_app {kind : Int} (hk : kindOk kind = true ∨ kind = 10) {pe : T → Bs} {pr : St → T × St} {pt : T → T} {null nul flex : Bool} (hn : null = true → nul = true) (t : T) (r : Bs) (hp : ∀ r, pr (pe t ++ r, false) = (pt t, (r, false))) :
    rdK kind nul flex pr (valueP kind pe null flex t ++ r, false) = (tdK kind pt null t, (r, false)) := by
  simp only [kindOk, Bool.and_eq_true, decide_eq_true_eq] at hk
  by_cases h0 : kind = 0
  · subst h0
    simp only [rdK, tdK, valueP, if_true, List.cons_append, List.nil_append, rdBool, rdN1_cons, mod2_bool]
  by_cases h1 : kind = 1
  · subst h1
    simp only [rdK, tdK, valueP, widthP, rdI_fixed, if_true, reduceIte, Int.reduceEq]
  by_cases h2 : kind = 2
  · subst h2
    simp only [rdK, tdK, valueP, widthP, rdI_fixed, if_true, reduceIte, Int.reduceEq, true_or]
  by_cases h3 : kind = 3
  · subst h3
    simp only [rdK, tdK, valueP, widthP, rdI_fixed, if_true, reduceIte, Int.reduceEq, or_self]
  by_cases h4 : kind = 4
  · subst h4
    simp only [rdK, tdK, valueP, widthP, rdI_fixed, if_true, reduceIte, Int.reduceEq, or_self]
  by_cases h5 : kind = 5
  · subst h5
    simp only [rdK, tdK, valueP, widthP, u16_fixed, if_true, reduceIte, Int.reduceEq, or_true]
    congr 2
    omega
  by_cases h6 : kind = 6
  · subst h6
    simp only [rdK, tdK, valueP, widthP, rdI_fixed, if_true, reduceIte, Int.reduceEq, or_self]
  by_cases h7 : kind = 7
  · subst h7
    have := rdUuid_app t.s r
    unfold pad16 at this
    simp only [rdK, tdK, valueP, if_true, reduceIte, Int.reduceEq, this, pad16]
  by_cases h8 : kind = 8
  · subst h8
    have hl := whole_len t.s
    cases null with
    | true =>
      obtain rfl : nul = true := hn rfl
      cases flex <;> simp [rdK, tdK, valueP, countedP, rdNStr_none, rdCNStr_none]
    | false =>
      cases nul <;> cases flex <;> simp [rdK, tdK, valueP, countedP, rdNStr_some, rdCNStr_some, rdStr_app, rdCStr_app, hl, nstrT]
  by_cases h9 : kind = 9
  · subst h9
    have hl := whole_len t.s
    cases null with
    | true =>
      obtain rfl : nul = true := hn rfl
      cases flex <;> simp [rdK, tdK, valueP, countedP, rdNBy_none, rdCNBy_none]
    | false =>
      cases nul <;> cases flex <;> simp [rdK, tdK, valueP, countedP, rdNBy_some, rdCNBy_some, rdBy_app, rdCBy_app, hl]
  · have h10 : kind = 10 := by omega
    subst h10
    simp only [rdK, tdK, valueP, if_true, reduceIte, Int.reduceEq, hp]
mutual
/-- tags' numbers have 32 bits -/
def keysT : T → Prop
  | .mk _ _ _ l u => (∀ x ∈ u, x.1 < 4294967296) ∧ keysTs l
def keysTs : List T → Prop
  | [] => True
  | t :: r => keysT t ∧ keysTs r
end
theorem keysTs_mem : ∀ {l : List T}, keysTs l → ∀ t ∈ l, keysT t
  | [], _, _, h => by cases h
  | x :: r, h, t, ht => by
    rcases List.mem_cons.1 ht with e | e
    · subst e; exact h.1
    · exact keysTs_mem h.2 t e
theorem keysT.at_ {t : T} (h : keysT t) (i : Nat) : keysT (atT t i) := by
  obtain ⟨n, s, b, l, u⟩ := t
  unfold atT
  rw [List.getD_eq_getElem?_getD]
  cases e : (T.l (.mk n s b l u))[i]? with
  | none => exact ⟨by simp, trivial⟩
  | some x => exact keysTs_mem h.2 x (List.mem_of_getElem? e)
theorem keysT.u {t : T} (h : keysT t) : ∀ x ∈ t.u, x.1 < 4294967296 := by
  obtain ⟨n, s, b, l, u⟩ := t
  exact h.1
theorem keysT.l {t : T} (h : keysT t) : ∀ x ∈ t.l, keysT x := by
  obtain ⟨n, s, b, l, u⟩ := t
  exact keysTs_mem h.2
theorem rdPartOf_app {fs : List F} {v : Int} {flex : Bool} (hw : untagged fs = true) {t : T} (ht : keysT t) (h : ∀ r, rdFs fs v flex (plainAt fs 0 v flex t ++ r, false) = (tdFs fs 0 v flex t, (r, false))) (r : Bs) :
    rdPartOf (rdFs fs v flex) flex (partP fs v flex t ++ r, false) = (.mk 0 [] false (tdFs fs 0 v flex t) (if flex then tdU fs t.u else []), (r, false)) := by
  rw [partP_untagged hw]
  cases flex with
  | false => simp only [rdPartOf, Bool.false_eq_true, if_false, h r]
  | true =>
    have hm := tdU_mem (fs := fs) ht.u
    have hl := tdU_len fs t.u
    simp only [rdPartOf, if_true, List.append_assoc, h]
    rw [rdTags_app (tdU fs t.u) r (tdU_rising fs t.u) (fun u hu => ⟨(hm u hu).1, by have := (hm u hu).2; omega⟩) (by omega)]
mutual
theorem rdF_app {flex : Bool} {v : Int} (hv : 0 ≤ v) : ∀ (f : F), wfF flex f = true → ∀ (t : T) (r : Bs), keysT t → rdF f v flex (fieldP f v flex t ++ r, false) = (tdF f v flex t, (r, false))
  | .mk k a b nul tag dfl ofk sub, hw, t, r, ht => by
    simp only [wfF, Bool.and_eq_true, decide_eq_true_eq] at hw
    obtain ⟨⟨_, hws⟩, hk⟩ := hw
    have hpart : ∀ (t : T), keysT t → ∀ (r : Bs), rdPartOf (rdFs sub v flex) flex (partP sub v flex t ++ r, false) = (.mk 0 [] false (tdFs sub 0 v flex t) (if flex then tdU sub t.u else []), (r, false)) :=
      fun t ht r => rdPartOf_app (wfFs_untagged hws) ht (fun r => rdFs_app hv sub hws 0 t r ht) r
    rw [fieldP_eq]
    unfold fieldOf
    simp only [rdF, tdF, F.sub]
    generalize hnull : F.isNull (.mk k a b nul tag dfl ofk sub) v t = null
    have hn : null = true → (decide (0 ≤ nul) && decide (nul ≤ v)) = true := fun h => by
      have hq : (t.null && decide (0 ≤ nul) && decide (nul ≤ v)) = true := hnull.trans h
      simp only [Bool.and_eq_true] at hq ⊢
      exact ⟨hq.1.2, hq.2⟩
    by_cases h11 : k = 11
    · rw [if_pos (show F.kind (.mk k a b nul tag dfl ofk sub) = 11 from h11)]
      rw [if_pos h11] at hk
      simp only [if_pos h11]
      have hk' : kindOk ofk = true ∨ ofk = 10 := by
        rcases Bool.or_eq_true _ _ ▸ hk with h | h
        · exact .inl h
        · simp only [Bool.and_eq_true, decide_eq_true_eq] at h
          exact .inr h.1
      have hpos : ∀ x, 0 < (valueP ofk (partP sub v flex) false flex x).length := fun x => by
        rcases Bool.or_eq_true _ _ ▸ hk with h | h
        · exact valueP_pos h _ _ _ _
        · simp only [Bool.and_eq_true, decide_eq_true_eq] at h
          obtain ⟨rfl, h⟩ := h
          exact partP_pos hws h hv x
      have hel : ∀ x, keysT x → ∀ (r : Bs), rdK ofk false flex (rdPartOf (rdFs sub v flex) flex) (valueP ofk (partP sub v flex) false flex x ++ r, false) = (tdK ofk (fun t => .mk 0 [] false (tdFs sub 0 v flex t) (if flex then tdU sub t.u else [])) false x, (r, false)) := fun x hx r => rdK_app hk' (fun h => h) x r (hpart x hx)
      show rdListOf nul flex v _ (countedP flex null (if null then [] else things t.l).length 4 ++ ((if null then [] else things t.l).flatMap fun x => valueP ofk (partP sub v flex) false flex x) ++ r, false) = _
      cases null with
      | true =>
        have h0 := hn rfl
        simp only [Bool.and_eq_true, decide_eq_true_eq] at h0
        have hneg : ¬ nul < 0 := by omega
        cases flex <;> simp [rdListOf, countedP, rdLen_null, rdCLen_null, rdTimes, hneg, h0]
      | false =>
        have hl := things_len t.l
        have hlong := flatMap_long (enc := valueP ofk (partP sub v flex) false flex) (things t.l) (fun x _ => hpos x)
        have hT := rdTimes_app (g := rdK ofk false flex (rdPartOf (rdFs sub v flex) flex)) (things t.l) r (fun x hx r => hel x (ht.l x (List.mem_of_mem_take hx)) r)
        have e : (decide (((things t.l).length : Int) ≤ 0)) = (things t.l).isEmpty := by
          cases things t.l with
          | nil => rfl
          | cons a l => simp <;> omega
        have e2 : ¬ (((things t.l).length : Int) < 0) := by omega
        have hr : (things t.l).length ≤ (((things t.l).flatMap (valueP ofk (partP sub v flex) false flex)) ++ r).length := by simp only [List.length_append]; omega
        cases flex <;> simp only [rdListOf, countedP, Bool.false_eq_true, if_false, if_true, List.append_assoc, rdLen_app hl hr, rdCLen_app hl hr, Int.toNat_natCast, hT, e, e2, decide_false, Bool.and_false]
    · rw [if_neg (show ¬ F.kind (.mk k a b nul tag dfl ofk sub) = 11 from h11)]
      rw [if_neg h11] at hk
      have h10 : ¬ (F.kind (.mk k a b nul tag dfl ofk sub) = 10 ∧ 0 ≤ F.nul (.mk k a b nul tag dfl ofk sub)) := fun h => by
        rw [if_pos (show k = 10 from h.1)] at hk
        have h1 : nul < 0 := by simpa using hk
        have h2 : 0 ≤ nul := h.2
        omega
      rw [if_neg h10]
      have hk' : kindOk k = true ∨ k = 10 := by
        by_cases hkk : k = 10
        · exact .inr hkk
        · rw [if_neg hkk] at hk; exact .inl hk
      simp only [if_neg h11]
      exact rdK_app hk' hn t r (hpart t ht)
theorem rdFs_app {flex : Bool} {v : Int} (hv : 0 ≤ v) : ∀ (fs : List F), wfFs flex fs = true → ∀ (i : Nat) (t : T) (r : Bs), keysT t → rdFs fs v flex (plainAt fs i v flex t ++ r, false) = (tdFs fs i v flex t, (r, false))
  | [], _, _, _, _, _ => by simp [rdFs, plainAt, tdFs]
  | f :: fs, hw, i, t, r, ht => by
    simp only [wfFs, Bool.and_eq_true] at hw
    simp only [plainAt, tdFs, rdFs]
    by_cases h : f.has v = true
    · simp only [h, if_true, List.append_assoc, rdF_app hv f hw.1 _ _ (ht.at_ i), rdFs_app hv fs hw.2 _ _ _ ht]
    · simp only [h, Bool.false_eq_true, if_false, List.nil_append, rdFs_app hv fs hw.2 _ _ _ ht]
end
/-- WHAT WAS WRITTEN IS READ -/
theorem rdPart_app {fs : List F} {v : Int} {flex : Bool} (hv : 0 ≤ v) (hw : wfFs flex fs = true) {t : T} (ht : keysT t) (r : Bs) : rdPart fs v flex (partP fs v flex t ++ r, false) = (tdPart fs v flex t, (r, false)) :=
  rdPartOf_app (wfFs_untagged hw) ht (fun r => rdFs_app hv fs hw 0 t r ht) r
/-! WHAT AppendTo WRITES of a struct that reads as a tree: the reference without its cuts -/
def apK (kind : Int) (part : T → Bs) (null flex : Bool) (t : T) : Bs :=
  if kind = 0 then [UInt8.ofNat (t.n % 2).toNat]
  else if kind = 7 then t.s
  else if kind = 8 then countedP flex null t.s.length 2 ++ t.s
  else if kind = 9 then countedP flex null t.s.length 4 ++ t.s
  else if kind = 10 then part t
  else fixedP t.n (widthP kind)
def apU (u : List Tg) : Bs := uvarP u.length ++ (u.map tagP).flatten
mutual
def apF : F → Int → Bool → T → Bs
  | .mk k a b nul tag dfl ofk sub, v, flex, t =>
    if k = 11 then countedP flex (F.isNull (.mk k a b nul tag dfl ofk sub) v t) t.l.length 4 ++ t.l.flatMap (apK ofk (fun t => apFs sub v flex t.l ++ (if flex then apU t.u else [])) false flex)
    else apK k (fun t => apFs sub v flex t.l ++ (if flex then apU t.u else [])) (F.isNull (.mk k a b nul tag dfl ofk sub) v t) flex t
/-- fields' trees, one by one -/
def apFs : List F → Int → Bool → List T → Bs
  | [], _, _, _ => []
  | _ :: _, _, _, [] => []
  | f :: r, v, flex, t :: l => (if f.has v then apF f v flex t else []) ++ apFs r v flex l
end
def apPart (fs : List F) (v : Int) (flex : Bool) (t : T) : Bs := apFs fs v flex t.l ++ (if flex then apU t.u else [])
theorem fixed_wrapN (k : Nat) (n : Int) : fixedP (wrapN k n) k = fixedP n k := by
  have h1 := fixed_wrap1 n k k (Nat.le_refl _)
  have h2 := fixed_wrap1 (wrapN k n) k k (Nat.le_refl _)
  rw [← h1, ← h2]
  congr 1
  have hp : (0 : Int) < 2 ^ (8 * k) := Int.pow_pos (by decide)
  have h0 := Int.emod_nonneg n (show (2 : Int) ^ (8 * k) ≠ 0 by omega)
  unfold wrapN sgn
  have e : (((n % 2 ^ (8 * k)).toNat : Nat) : Int) = n % 2 ^ (8 * k) := Int.toNat_of_nonneg h0
  split
  · rw [e, Int.emod_emod]
  · rw [e, Int.sub_emod, Int.emod_self, Int.sub_zero, Int.emod_emod, Int.emod_emod]
theorem apK_td {kind : Int} (hk : kindOk kind = true ∨ kind = 10) {pe pa : T → Bs} {pt : T → T} {null flex : Bool} (t : T) (hp : pa (pt t) = pe t) :
    apK kind pa null flex (tdK kind pt null t) = valueP kind pe null flex t := by
  simp only [kindOk, Bool.and_eq_true, decide_eq_true_eq] at hk
  by_cases h0 : kind = 0
  · subst h0
    simp only [apK, tdK, valueP, if_true, T.n, Int.emod_emod]
  by_cases h1 : kind = 1
  · subst h1
    simp only [apK, tdK, valueP, widthP, T.n, if_true, reduceIte, Int.reduceEq, fixed_wrapN]
  by_cases h2 : kind = 2
  · subst h2
    simp only [apK, tdK, valueP, widthP, T.n, if_true, reduceIte, Int.reduceEq, fixed_wrapN, true_or]
  by_cases h3 : kind = 3
  · subst h3
    simp only [apK, tdK, valueP, widthP, T.n, if_true, reduceIte, Int.reduceEq, fixed_wrapN, or_self]
  by_cases h4 : kind = 4
  · subst h4
    simp only [apK, tdK, valueP, widthP, T.n, if_true, reduceIte, Int.reduceEq, fixed_wrapN, or_self]
  by_cases h5 : kind = 5
  · subst h5
    simp only [apK, tdK, valueP, widthP, T.n, if_true, reduceIte, Int.reduceEq, or_true]
    exact fixed_wrap1 t.n 2 2 (by decide)
  by_cases h6 : kind = 6
  · subst h6
    simp only [apK, tdK, valueP, widthP, T.n, if_true, reduceIte, Int.reduceEq, fixed_wrapN, or_self]
  by_cases h7 : kind = 7
  · subst h7
    simp only [apK, tdK, valueP, T.s, if_true, reduceIte, Int.reduceEq, pad16]
  by_cases h8 : kind = 8
  · subst h8
    cases null <;> simp [apK, tdK, valueP, nstrT, T.s]
  by_cases h9 : kind = 9
  · subst h9
    cases null <;> simp [apK, tdK, valueP, octT, T.s]
  · have h10 : kind = 10 := by omega
    subst h10
    simp only [apK, tdK, valueP, if_true, reduceIte, Int.reduceEq, hp]
/-- null is told of a text alone, and where it may be -/
theorem tdK_null {kind : Int} {pt : T → T} (hpt : ∀ t, (pt t).null = false) (null : Bool) (t : T) : (tdK kind pt null t).null = ((decide (kind = 8) || decide (kind = 9)) && null) := by
  by_cases h8 : kind = 8
  · subst h8
    cases null <;> rfl
  by_cases h9 : kind = 9
  · subst h9
    cases null <;> rfl
  · rw [show decide (kind = 8) = false by simpa using h8, show decide (kind = 9) = false by simpa using h9, Bool.or_false, Bool.false_and]
    unfold tdK
    repeat' split
    all_goals first
      | rfl
      | exact hpt _
      | contradiction
theorem tdFs_len : ∀ (fs : List F) (i : Nat) (v : Int) (flex : Bool) (t : T), (tdFs fs i v flex t).length = fs.length
  | [], _, _, _, _ => rfl
  | f :: r, i, v, flex, t => by simp [tdFs, tdFs_len r]
mutual
theorem apF_td {flex : Bool} {v : Int} : ∀ (f : F), wfF flex f = true → ∀ (t : T), apF f v flex (tdF f v flex t) = fieldP f v flex t
  | .mk k a b nul tag dfl ofk sub, hw, t => by
    simp only [wfF, Bool.and_eq_true, decide_eq_true_eq] at hw
    obtain ⟨⟨_, hws⟩, hk⟩ := hw
    have hpart : ∀ (t : T), apFs sub v flex (T.mk 0 [] false (tdFs sub 0 v flex t) (if flex then tdU sub t.u else [])).l ++ (if flex then apU (T.mk 0 [] false (tdFs sub 0 v flex t) (if flex then tdU sub t.u else [])).u else []) = partP sub v flex t := fun t => by
      rw [partP_untagged (wfFs_untagged hws)]
      have h := apFs_td (flex := flex) (v := v) sub hws 0 t
      cases flex <;> simp [T.l, T.u, apU, h]
    rw [fieldP_eq]
    unfold fieldOf
    simp only [apF, tdF, F.sub]
    by_cases h11 : k = 11
    · rw [if_pos (show F.kind (.mk k a b nul tag dfl ofk sub) = 11 from h11)]
      rw [if_pos h11] at hk
      simp only [if_pos h11]
      have hk' : kindOk ofk = true ∨ ofk = 10 := by
        rcases Bool.or_eq_true _ _ ▸ hk with h | h
        · exact .inl h
        · simp only [Bool.and_eq_true, decide_eq_true_eq] at h
          exact .inr h.1
      generalize hnull : F.isNull (.mk k a b nul tag dfl ofk sub) v t = null
      have hq : (t.null && decide (0 ≤ nul) && decide (nul ≤ v)) = null := hnull
      have hnn : F.isNull (.mk k a b nul tag dfl ofk sub) v (.mk 0 [] (if nul < 0 then (things t.l).isEmpty else null) ((if null then [] else things t.l).map (tdK ofk (fun t => .mk 0 [] false (tdFs sub 0 v flex t) (if flex then tdU sub t.u else [])) false)) []) = null := by
        show ((if nul < 0 then (things t.l).isEmpty else null) && decide (0 ≤ nul) && decide (nul ≤ v)) = null
        by_cases h : nul < 0
        · rw [if_pos h, show decide (0 ≤ nul) = false by simpa using h]
          rw [show decide (0 ≤ nul) = false by simpa using h] at hq
          simpa using hq
        · rw [if_neg h]
          cases null with
          | false => simp
          | true =>
            simp only [Bool.and_eq_true] at hq
            simp [hq.1.2, hq.2]
      rw [hnn]
      show countedP flex null ((if null then [] else things t.l).map _).length 4 ++ ((if null then [] else things t.l).map _).flatMap _ = countedP flex null (if null then [] else things t.l).length 4 ++ ((if null then [] else things t.l).flatMap fun x => valueP ofk (partP sub v flex) false flex x)
      rw [List.length_map, List.flatMap_map]
      congr 2
      funext x
      exact apK_td hk' x (hpart x)
    · rw [if_neg (show ¬ F.kind (.mk k a b nul tag dfl ofk sub) = 11 from h11)]
      rw [if_neg h11] at hk
      have h10 : ¬ (F.kind (.mk k a b nul tag dfl ofk sub) = 10 ∧ 0 ≤ F.nul (.mk k a b nul tag dfl ofk sub)) := fun h => by
        rw [if_pos (show k = 10 from h.1)] at hk
        have h1 : nul < 0 := by simpa using hk
        have h2 : 0 ≤ nul := h.2
        omega
      rw [if_neg h10]
      have hk' : kindOk k = true ∨ k = 10 := by
        by_cases hkk : k = 10
        · exact .inr hkk
        · rw [if_neg hkk] at hk; exact .inl hk
      simp only [if_neg h11]
      generalize hnull : F.isNull (.mk k a b nul tag dfl ofk sub) v t = null
      have hq : (t.null && decide (0 ≤ nul) && decide (nul ≤ v)) = null := hnull
      have key : apK k (fun t => apFs sub v flex t.l ++ (if flex then apU t.u else [])) (F.isNull (.mk k a b nul tag dfl ofk sub) v (tdK k (fun t => .mk 0 [] false (tdFs sub 0 v flex t) (if flex then tdU sub t.u else [])) null t)) flex (tdK k (fun t => .mk 0 [] false (tdFs sub 0 v flex t) (if flex then tdU sub t.u else [])) null t) = apK k (fun t => apFs sub v flex t.l ++ (if flex then apU t.u else [])) null flex (tdK k (fun t => .mk 0 [] false (tdFs sub 0 v flex t) (if flex then tdU sub t.u else [])) null t) := by
        by_cases h8 : k = 8
        · have e : F.isNull (.mk k a b nul tag dfl ofk sub) v (tdK k (fun t => .mk 0 [] false (tdFs sub 0 v flex t) (if flex then tdU sub t.u else [])) null t) = null := by
            show ((tdK k (fun t => .mk 0 [] false (tdFs sub 0 v flex t) (if flex then tdU sub t.u else [])) null t).null && decide (0 ≤ nul) && decide (nul ≤ v)) = null
            rw [tdK_null (fun _ => rfl), h8]
            cases null with
            | false => simp
            | true =>
              simp only [Bool.and_eq_true] at hq
              simp only [hq.1.2, hq.2]
              rfl
          rw [e]
        by_cases hk9 : k = 9
        · have e : F.isNull (.mk k a b nul tag dfl ofk sub) v (tdK k (fun t => .mk 0 [] false (tdFs sub 0 v flex t) (if flex then tdU sub t.u else [])) null t) = null := by
            show ((tdK k (fun t => .mk 0 [] false (tdFs sub 0 v flex t) (if flex then tdU sub t.u else [])) null t).null && decide (0 ≤ nul) && decide (nul ≤ v)) = null
            rw [tdK_null (fun _ => rfl), hk9]
            cases null with
            | false => simp
            | true =>
              simp only [Bool.and_eq_true] at hq
              simp only [hq.1.2, hq.2]
              rfl
          rw [e]
        · unfold apK
          simp only [if_neg h8, if_neg hk9]
      exact key.trans (apK_td hk' t (hpart t))
theorem apFs_td {flex : Bool} {v : Int} : ∀ (fs : List F), wfFs flex fs = true → ∀ (i : Nat) (t : T), apFs fs v flex (tdFs fs i v flex t) = plainAt fs i v flex t
  | [], _, _, _ => rfl
  | f :: fs, hw, i, t => by
    simp only [wfFs, Bool.and_eq_true] at hw
    simp only [plainAt, tdFs, apFs]
    by_cases h : f.has v = true
    · simp only [h, if_true, apF_td f hw.1, apFs_td fs hw.2]
    · simp only [h, Bool.false_eq_true, if_false, apFs_td fs hw.2]
end
/-- WHAT WAS READ IS WRITTEN AGAIN -/
theorem apPart_td {fs : List F} {v : Int} {flex : Bool} (hw : wfFs flex fs = true) (t : T) : apPart fs v flex (tdPart fs v flex t) = partP fs v flex t := by
  rw [partP_untagged (wfFs_untagged hw)]
  have h := apFs_td (flex := flex) (v := v) fs hw 0 t
  unfold apPart tdPart
  cases flex <;> simp [T.l, T.u, apU, h]
end Go.Proofs.YtdklogmmfnddiaaDoor
