/-
  Tags.Each: the call that it is given is called for each tag, by rising numbers.
-/
import Derived.Test.YtidebamgmbdnaaaMB15
import Derived.Test.YtidebamgmbdnaaaMB9
import Derived.Test.YtidebamgmbdnaaaMB14
import Derived.Test.YtidebamgmbdnaaaMB13
import Derived.Test.YtidebamgmbdnaaaMB1
import Derived.Test.YtidebamgmbdnaaaMB12
import Derived.Maps.OwnSet
import Derived.OwnWalk
import Derived.WalkSpells
import Derived.Shelf.Abstract
namespace Go.Proofs.Ytidebamgmbdnaaa
open Go.ChangeShapes Go.WideShapes Go.ChangeAt Go.RowKit

/-- outside J everything is as it was -/
structure Chg (J : Nat → Prop) (w w' : World) : Prop where
  os : w'.os = w.os
  tape : w'.tape = w.tape
  output : w'.output = w.output
  size : w.heap.size ≤ w'.heap.size
  block : ∀ k, k < w.heap.size → ¬ J k → w'.heap[k]? = w.heap[k]?
theorem Chg.refl (J : Nat → Prop) (w : World) : Chg J w w := ⟨rfl, rfl, rfl, Nat.le_refl _, fun _ _ _ => rfl⟩
theorem Keep.chg {w w' : World} (h : Keep [] w w') (J : Nat → Prop) : Chg J w w' := ⟨h.os, h.tape, h.output, h.size, fun k hk _ => h.block k hk (by simp)⟩
theorem Chg.trans {J J1 J2 : Nat → Prop} {w w1 w2 : World} (h : Chg J1 w w1) (k : Chg J2 w1 w2) (h1 : ∀ j, J1 j → J j ∨ w.heap.size ≤ j) (h2 : ∀ j, J2 j → J j ∨ w.heap.size ≤ j) : Chg J w w2 :=
  ⟨k.os.trans h.os, k.tape.trans h.tape, k.output.trans h.output, Nat.le_trans h.size k.size, fun j hj hn =>
    (k.block j (Nat.lt_of_lt_of_le hj h.size) (fun e => by
      rcases h2 j e with e | e
      · exact hn e
      · omega)).trans (h.block j hj (fun e => by
      rcases h1 j e with e | e
      · exact hn e
      · omega))⟩

theorem grown_set (w : World) (p : Addr) (u : Value) : w.grownBy (w.setCell p u) (some p.block) := ⟨rfl, rfl, rfl, by simp [World.setCell], fun k hk hne => Below.heap_setCell _ _ _ _ (fun e => hne (by rw [e]))⟩
/-- what was met so far -/
def Coll (tv : List (Nat × Value)) (left : Lit → Bool) (ss : List Int) : Prop :=
  ss.Nodup ∧ (∀ x : Int, left (.int .u32 x) = true → Maps.has (tD tv) (.int .u32 x) = true) ∧ ∀ x : Int, x ∈ ss ↔ (Maps.has (tD tv) (.int .u32 x) = true ∧ left (.int .u32 x) = false)
theorem Coll.start (tv : List (Nat × Value)) : Coll tv (Maps.has (tD tv)) [] :=
  ⟨List.nodup_nil, fun _ h => h, fun x => by cases Maps.has (tD tv) (.int .u32 x) <;> simp⟩
theorem Coll.step {tv : List (Nat × Value)} {left : Lit → Bool} {ss : List Int} (h : Coll tv left ss) {x : Int} (hl : left (.int .u32 x) = true) : Coll tv (fun z => left z && !z.sameKey (.int .u32 x)) (ss ++ [x]) := by
  obtain ⟨h1, h2, h3⟩ := h
  refine ⟨?_, fun y hy => h2 y (by simp at hy; exact hy.1), fun y => ?_⟩
  · refine List.nodup_append.2 ⟨h1, by simp, fun a ha b hb => ?_⟩
    simp at hb
    subst hb
    rintro rfl
    have := ((h3 a).1 ha).2
    rw [hl] at this
    cases this
  · simp only [List.mem_append, List.mem_singleton, h3]
    by_cases e : y = x
    · subst e
      simp [Lit.sameKey, h2 y hl]
    · have : (Lit.int .u32 y).sameKey (.int .u32 x) = false := by simp [Lit.sameKey, e]
      simp [this, e]
theorem Coll.perm {tv : List (Nat × Value)} {left : Lit → Bool} {ss : List Int} (h : Coll tv left ss) (hr : Rising tv) (hl : ∀ kl, left kl = false) : ss.Perm (tv.map fun x => (x.1 : Int)) := by
  obtain ⟨h1, _, h3⟩ := h
  refine (List.perm_ext_iff_of_nodup h1 ?_).2 fun x => ?_
  · refine List.pairwise_map.2 (hr.imp fun {a b} hab => ?_)
    omega
  · rw [h3]
    simp only [hl, and_true, List.mem_map]
    constructor
    · intro hx
      obtain ⟨y, hy, e⟩ := tD_has hx
      exact ⟨y, hy, e⟩
    · rintro ⟨y, hy, rfl⟩
      exact tD_has_mem hy
theorem keys_lt {tv : List (Nat × Value)} (hr : Rising tv) : (tv.map fun x => (x.1 : Int)).Pairwise (· < ·) := List.pairwise_map.2 (hr.imp fun {a b} hab => by omega)

theorem info_n32 : (Try.prog.info? 59).map (fun i => (i.zero, i.size, i.bytes)) = some (some (.int .u32 0), 1, 4) := by kernel_rfl
theorem zero_sl : ∀ w, (zeroValue 22).run Try.prog w = .ok (.slice none 0 0) w := Try.zeroValue22
theorem tlook {tv : List (Nat × Value)} {n r : Nat} {w : World} (hown : w.ownsMap Try.prog 59 tR r n (tD tv)) (hr : Rising tv) (hlt : ∀ x ∈ tv, x.1 < 4294967296) {x : Nat × Value} (hx : x ∈ tv) :
    (Instr.lookup 51 (.map (some r)) (.int .u32 (x.1 : Int)) false).run Try.prog w = .ok x.2 w := by
  obtain ⟨v, ps, h1, h2⟩ := hown.lookup (Maps.int_keyed Try.underlying59) Try.underlying51 (zero_sl w) (zd := .held (.slice none 0 0)) (zp := []) rfl (Maps.keyOf_int_mk Try.underlying59 (wf_u32 (hlt x hx)))
  rw [tD_at hr hx] at h2
  simp only [tR, Option.some.injEq, Prod.mk.injEq, DataW.held.injEq] at h2
  rw [h1, h2.1]

set_option maxHeartbeats 1000000 in
set_option maxRecDepth 100000 in
theorem each_any {b i n fn : Nat} {v p : Value} {tv : List (Nat × Value)} {w : World} {c : Array Value} {t : TypeId} (hb : w.heap[b]? = some (.cells c t (0, 0))) (hc : c[i]? = some v) (hm : MO w v n tv) (hn : n ≤ 17179869184)
    (eg : ∀ args w, (callFunc fn args).run Try.prog w = .ok (.enter fn args) w)
    (I : Nat → (Nat → Prop) → World → Prop) (J0 : Nat → Prop) (hI : I 0 J0 w) (hJb : ¬ J0 b) (hJm : ∀ k ∈ mblk v, ¬ J0 k) (hJlt : ∀ k, J0 k → k < w.heap.size)
    (hkeep : ∀ d J W W', I d J W → Keep [] W W' → I d J W')
    (hstep : ∀ j (hj : j < tv.length) J W, I j J W → w.heap.size ≤ W.heap.size → Calls Try.prog fn #[.int .u32 (tv[j].1 : Int), tv[j].2, p] W fun e W' => e = .returned (.tuple #[]) ∧ ∃ J', I (j + 1) J' W' ∧ (∀ j, J' j → J j ∨ W.heap.size ≤ j) ∧ Chg J W W') :
    Calls Try.prog 101 #[.pointer (some ⟨b, i, none⟩), .func (.func fn) #[] #[p]] w fun e w' => e = .returned (.tuple #[]) ∧ ∃ J', I tv.length J' w' ∧ (∀ j, J' j → J0 j ∨ w.heap.size ≤ j) ∧ Chg J0 w w' := by
  have hbl : b < w.heap.size := (Array.getElem?_eq_some_iff.1 hb).1
  obtain ⟨hr, hlt, hcase⟩ := hm
  by_cases h0 : tv = []
  · subst h0
    have cb : w.cell? ⟨b, i, none⟩ = some v := cellOf hb i _ hc
    rcases hcase with ⟨rfl, _⟩ | ⟨r, rfl, hown⟩
    · have hlen := Maps.len_nil (w := w) Try.underlying51 3
      go_enter Try.func101, Try.ntmps101
      go_wp2_with fail
      refine bodyPost_ret (v := .tuple #[]) (by simp [results, Try.results101, go_sem]) rfl ⟨rfl, J0, hI, fun _ h => .inl h, Chg.refl _ _⟩
    · have hlen := hown.len Try.underlying51 3
      rw [tD_size] at hlen
      go_enter Try.func101, Try.ntmps101
      go_wp2_with fail
      refine bodyPost_ret (v := .tuple #[]) (by simp [results, Try.results101, go_sem]) rfl ⟨rfl, J0, hI, fun _ h => .inl h, Chg.refl _ _⟩
  rcases hcase with ⟨_, h⟩ | ⟨r, rfl, hown⟩
  · exact absurd h h0
  obtain ⟨i0, hi, hy0, hy1, hy2⟩ := info_parts info_n32
  have hpos : 0 < tv.length := List.length_pos_iff.2 h0
  have hsz : tv.length ≤ n := by
    obtain ⟨es, clock, _, _, h, e⟩ := hown
    have h2 := congrArg Maps.size e
    rw [tD_size] at h2
    simp [Maps.size, length_sorted] at h2
    omega
  have cb : w.cell? ⟨b, i, none⟩ = some (.map (some r)) := cellOf hb i _ hc
  have hlen := hown.len Try.underlying51 3
  rw [tD_size] at hlen
  have hrl := hown.lt
  go_enter Try.func101, Try.ntmps101
  go_wp2_with (first
    | (at_make; go_loud (refine wpList_make_own _ rfl _ _ 146 rfl w.heap.size 59 i0 (.int .u32 0) 1 Try.underlying146 hi hy0 hy1 _ _ _ tv.length rfl rfl rfl (by rw [hy2]; omega) (by unfold maxLen; omega) (Nat.le_refl _) ?_; intro w1 hrow1 hg1; have kg1 : Keep [] w w1 := (Keep.refl _ _).grown hg1 (by simp); have cb1 : (w1.alloc (.cells #[.slice (some ⟨w.heap.size, 0, none⟩) 0 tv.length] 146)).cell? ⟨b, i, none⟩ = some (.map (some r)) := ((kg1.alloc _).cell (p := ⟨b, i, none⟩) hbl (by simp)).trans cb))
    | (at_range; go_loud (refine wpList_range_own _ rfl _ 51 rfl 59 22 (Maps.int_keyed Try.underlying59) Try.underlying51 _ r n _ rfl ((hown.kept hg1 (by simp)).alloc _) ?_; intro w0 hrg0 hg0 hs0)))
  go_frame
  have k0 : Keep [] w w0 := (kg1.alloc _).grown hg0 (by simp)
  have hz1 : w.heap.size + 1 ≤ w1.heap.size := by
    rcases hrow1.2 with ⟨h, _⟩ | ⟨g, cap, cur, e, _, hb', _⟩
    · cases h
    · cases e
      have := (Array.getElem?_eq_some_iff.1 hb').1
      omega
  have hz0' : w0.heap.size = w1.heap.size + 2 := by simpa using hs0
  have hri1 : w1.heap.size < (w1.alloc (.cells #[.slice (some ⟨w.heap.size, 0, none⟩) 0 tv.length] 146)).heap.size := by simp
  have hri2 : (w1.alloc (.cells #[.slice (some ⟨w.heap.size, 0, none⟩) 0 tv.length] 146)).heap.size < w0.heap.size := by rw [hz0']; simp
  have hbox0 : w0.heap[w1.heap.size]? = some (.cells #[.slice (some ⟨w.heap.size, 0, none⟩) 0 tv.length] 146 (0, 0)) := (hg0.block _ (by simp) (by simp)).trans (heap_alloc_new w1 _)
  have hrow0 := (hrow1.alloc (.cells #[.slice (some ⟨w.heap.size, 0, none⟩) 0 tv.length] 146)).kept hg0 (Or.inr (by simp [Value.ownBlock]))
  rw [tD_size] at hrg0
  clear hs0 cb1 cb hlen hrow1
  generalize (w1.alloc (.cells #[.slice (some ⟨w.heap.size, 0, none⟩) 0 tv.length] 146)).heap.size = rI at *
  go_loopw [5] (fun _ wr => ∃ (left : Lit → Bool) (cnt : Nat) (ss : List Int), wr.ranges Try.prog 59 tR r rI n (tD tv) left cnt ∧ ss.length + cnt ≤ tv.length ∧
      wr.heap[w1.heap.size]? = some (.cells #[.slice (some ⟨w.heap.size, 0, none⟩) ss.length tv.length] 146 (0, 0)) ∧ wr.ownsRow w.heap.size 59 1 (.slice (some ⟨w.heap.size, 0, none⟩) ss.length tv.length) ss.length (ss.map (Value.int .u32)) ∧ Coll tv left ss ∧ Keep [] w wr ∧ w1.heap.size + 2 ≤ wr.heap.size)
    (fun _ wr => wr.rangeLeft r rI)
  case atStart => exact ⟨_, _, [], hrg0, by simp, hbox0, hrow0, Coll.start tv, k0, by omega⟩
  case round =>
    obtain ⟨left, cnt, ss, hrg, hcs, hbx, hrow, hC, hk, hzr⟩ := hrel
    have qb : wr.cell? ⟨w1.heap.size, 0, none⟩ = some (.slice (some ⟨w.heap.size, 0, none⟩) ss.length tv.length) := cellOf hbx 0 _ rfl
    have fb := freeOf hbx 0
    have HBX : Hid _ := hbx
    clear hbx hbox0
    go_wp2_with (first
      | (at_next; go_loud (refine wpList_next_ranges _ rfl _ rfl 59 (Maps.int_keyed Try.underlying59) tR (Value.int .u32) (fun v : Value => v) (fun key kl hkey => by obtain ⟨x, rfl, _⟩ := Maps.keyOf_int_inv Try.underlying59 hkey; exact ⟨x, rfl⟩) (fun v y _ => ⟨v, rfl⟩) r rI n _ _ _ rfl hrg ?_ ?_)))
    · intro hc0 hl0
      have hperm := hC.perm hr hl0
      have hK := keys_lt hr
      obtain ⟨cur, hcur, hcz, hct⟩ : ∃ cur, wr.heap[w.heap.size]? = some (.cells cur 59 (0, 0)) ∧ cur.size = tv.length ∧ cur.toList.take ss.length = ss.map (Value.int .u32) := by
        rcases hrow.2 with ⟨h, _⟩ | ⟨g, cap, cur, e, _, hb', _, _, h3, h4⟩
        · cases h
        · cases e
          exact ⟨cur, hb', by simpa using h3, by simpa using h4⟩
      have hsl : ss.length = tv.length := by have := hperm.length_eq; simpa using this
      have TS := tsort_any (tb := 146) hcur hct (by omega) HBX.out (by omega) (by omega) hK hperm
      rw [hsl] at TS qb hct
      clear hrow hcs
      have Q := fun w' (h : Keep [w.heap.size] wr w') => (h.cell (p := ⟨w1.heap.size, 0, none⟩) (World.block_lt_of_cell? wr _ qb) (by simp; omega)).trans qb
      have HQ : Hid _ := Q
      have HSL : Hid _ := hsl
      clear hcur Q hsl hct hperm hC
      go_wp2_with (go_at_call 110; go_loud (refine TS.mono ?_; rintro e ws ⟨rfl, cur', hcur', hct', hcz', ks⟩; have qs := HQ.out ws ks))
      have kS : Keep [] w ws := ((hk.weaken (B := [w.heap.size]) (by simp)).trans ks).fresh (by simp)
      have hgJ : ¬ J0 w.heap.size := fun h => by have := hJlt _ h; omega
      have hII := hkeep _ _ _ _ hI kS
      have HKEY : Hid _ := hct'
      have hce : ∀ j (hj : j < tv.length), cur'[j]? = some (.int .u32 (tv[j].1 : Int)) := fun j hj => by
        have e := congrArg (fun l => l[j]?) HKEY.out
        simp only [List.getElem?_take_of_lt hj, Array.getElem?_toList, List.map_map, List.getElem?_map, List.getElem?_eq_getElem hj, Option.map_some] at e
        exact e
      clear hct' qs qb fb hkeep TS
      go_loopw [39, 7] (fun k _ wq => ∃ (j : Nat) (J : Nat → Prop), k = .int .i64 (j : Int) ∧ j ≤ tv.length ∧ I j J wq ∧ (∀ x, J x → J0 x ∨ w.heap.size ≤ x) ∧ Chg J0 w wq ∧ ¬ J w.heap.size ∧ wq.heap[w.heap.size]? = some (.cells cur' 59 (0, 0))) (fun k _ _ => tv.length - (intOf k).toNat)
      case atStart => exact ⟨0, J0, rfl, Nat.zero_le _, hII, fun _ h => .inl h, kS.chg _, hgJ, hcur'⟩
      case round =>
        obtain ⟨j, J, rfl, hj, hIj, hJ, hch, hgj, hcq⟩ := hrel
        have hbq := (hch.block b hbl hJb).trans hb
        have cbq : _ := cellOf hbq i _ hc
        by_cases hlt2 : j < tv.length
        · have hmem : tv[j] ∈ tv := List.getElem_mem hlt2
          have hcj := cellOf hcq j _ (hce j hlt2)
          have hlook := tlook (w := _) (let ⟨es, clock, hb', h4⟩ := hown; ⟨es, clock, (hch.block r hrl (hJm r (by simp [mblk]))).trans hb', h4⟩) hr hlt hmem
          have HS := hstep j hlt2 J _ hIj hch.size
          have hzq := hch.size
          clear hmem hbq hcur'
          generalize hx : tv[j] = x at *
          obtain ⟨kx, vx⟩ := x
          clear hx
          simp only at hcj hlook HS
          have hgz := World.block_lt_of_cell? _ _ hcj
          have HCQ : Hid _ := hcq
          clear hcq
          go_wp2_with (go_at_fn fn; go_loud (refine HS.mono ?_; rintro e wz ⟨rfl, J', hI', hJ', hcz⟩))
          refine ⟨⟨j + 1, J', by go_num, by omega, hI', fun y h => (hJ' y h).elim (hJ y) (fun h => .inr (by omega)), hch.trans hcz (fun _ h => .inl h) hJ, fun h => (hJ' _ h).elim hgj (fun h => by omega), (hcz.block _ hgz hgj).trans HCQ.out⟩, by simp [intOf]; omega⟩
        · obtain rfl : j = tv.length := by omega
          clear hcq hbq cbq
          go_wp2_with fail
          refine bodyPost_end (v := .tuple #[]) (by simp [results, Try.results101, go_sem]) rfl ⟨rfl, J, hIj, hJ, hch⟩
    · intro x c' kl yd yp w2 cnt2 hkey hlk hv hat hrg2 hlt2 hg2 hs2 hen
      obtain ⟨x', ex, rfl, hwx⟩ := Maps.keyOf_int_inv Try.underlying59 hkey
      cases ex
      have hz2' : wr.heap.size ≤ w2.heap.size := hg2.size
      have hrow2 := hrow.kept hg2 (Or.inr (by simp [Value.ownBlock]; omega))
      have bx2 := (hg2.block w1.heap.size (by omega) (by simp; omega)).trans HBX.out
      have q2 : w2.cell? ⟨w1.heap.size, 0, none⟩ = some (.slice (some ⟨w.heap.size, 0, none⟩) ss.length tv.length) := cellOf bx2 0 _ rfl
      have HB2 : Hid _ := bx2
      have hbl2 : w1.heap.size < w2.heap.size := World.block_lt_of_cell? w2 _ q2
      clear hs2 bx2 qb fb
      go_wp2_with (at_builtin; go_loud (refine wpList_append_fits _ rfl _ _ 146 rfl w.heap.size 59 i0 1 Try.underlying146 hi hy1 w.heap.size ss.length tv.length _ rfl (hrow2.alloc _) ⟨w2.heap.size, 0, none⟩ 1 1 [.int .u32 x] rfl rfl (cell_one_new _ _ _) (by simp [Value.oneCell']) (by omega) ?_; intro w3 hown3 hg3; have bx3 := (hg3.block w1.heap.size (by simp; omega) (by simp; omega)).trans (((keep_box (A := []) (.cells #[.int .u32 x] 59)).block w1.heap.size hbl2 (by simp)).trans HB2.out); have q3 := cellOf bx3 0 _ rfl; have f3 := freeOf bx3 0; have HB3 : Hid _ := bx3; clear bx3 q2))
      have g4 := grown_set w3 ⟨w1.heap.size, 0, none⟩ (.slice (some ⟨w.heap.size, 0, none⟩) (ss.length + 1) tv.length)
      have hrg4 := (((hrg2.alloc (.cells #[.int .u32 x] 59)).kept hg3 (by simp; omega) (by simp; omega)).kept g4 (by simp; omega) (by simp; omega))
      have hz3 := hg3.size
      have hz4 := g4.size
      have k4 : Keep [] w (w3.setCell ⟨w1.heap.size, 0, none⟩ (.slice (some ⟨w.heap.size, 0, none⟩) (ss.length + 1) tv.length)) := (((hk.grown hg2 (by simp; omega)).alloc (.cells #[.int .u32 x] 59)).grown hg3 (by simp)).grown g4 (by simp; omega)
      have hb4 := heap_set (i := 0) HB3.out (.slice (some ⟨w.heap.size, 0, none⟩) (ss.length + 1) tv.length)
      simp at hz3
      refine ⟨⟨_, cnt2, ss ++ [x], hrg4, by simp; omega, by simpa using hb4, ?_, hC.step hlk, k4, by omega⟩, ?_⟩
      · have h := hown3.kept g4 (Or.inr (by simp [Value.ownBlock]; omega))
        simpa using h
      · rw [hrg4.left_eq, hrg.left_eq]; exact hlt2
end Go.Proofs.Ytidebamgmbdnaaa
/-
  Tags.Len, Tags.AppendEach: the tags by rising numbers onto octets of the call's own.
-/
namespace Go.Proofs.Ytidebamgmbdnaaa
open Go.ChangeShapes Go.WideShapes Go.ChangeAt Go.RowKit

set_option maxHeartbeats 400000 in
theorem tlen_any {G : Nat → Prop} {b i : Nat} {v : Value} {u : List Tg} {w : World} {c : Array Value} {t : TypeId} (hb : w.heap[b]? = some (.cells c t (0, 0))) (hc : c[i]? = some v) (hm : MP w G v u) :
    Calls Try.prog 69 #[.pointer (some ⟨b, i, none⟩)] w fun e w' => e = .returned (.int .i64 (u.length : Int)) ∧ w = w' := by
  obtain ⟨n, m, h1, ⟨_, _, hcase⟩, h3, rfl, h5⟩ := hm
  have cb : w.cell? ⟨b, i, none⟩ = some v := cellOf hb i _ hc
  rcases hcase with ⟨rfl, hz⟩ | ⟨r, rfl, hown⟩
  · have hm0 : m = [] := by simpa using hz
    subst hm0
    have hlen := Maps.len_nil (w := w) Try.underlying51 3
    go_enter Try.func69, Try.ntmps69
    go_wp2_with fail
    go_ret
    exact ⟨rfl, rfl⟩
  · have hlen := hown.len Try.underlying51 3
    rw [tD_size, List.length_map] at hlen
    rw [List.length_map]
    go_enter Try.func69, Try.ntmps69
    go_wp2_with fail
    go_ret
    exact ⟨rfl, rfl⟩
theorem OB.shp {w : World} {B : Nat} {v : Value} {l : Bs} (h : OB w B v l) : ∃ a n c, v = .slice a n c := by
  obtain ⟨a, c, e⟩ := h.len
  exact ⟨a, _, c, e⟩
/-- the tags' octets are being gathered in the variable at bx: since W0 only J and new blocks have turned -/
structure TgCell (B bx : Nat) (J : Nat → Prop) (W0 W : World) (v : Value) (cur : Bs) : Prop where
  cell : W.heap[bx]? = some (.cells #[v] 22 (0, 0))
  own : OB W B v cur
  ne : v.ownBlock ≠ some bx
  here : ∀ k, v.ownBlock = some k → J k ∨ W0.heap.size ≤ k
  chg : Chg J W0 W
  jb : J bx
  lt : bx < W0.heap.size
  le : B ≤ W0.heap.size
theorem TgCell.rd {B bx : Nat} {J : Nat → Prop} {W0 W : World} {v : Value} {cur : Bs} (h : TgCell B bx J W0 W v cur) : W.cell? ⟨bx, 0, none⟩ = some v ∧ W.frozen? ⟨bx, 0, none⟩ = false := ⟨cellOf h.cell 0 _ rfl, freeOf h.cell 0⟩
theorem TgCell.step {B bx : Nat} {J : Nat → Prop} {W0 W W1 : World} {v v1 : Value} {cur p : Bs} (h : TgCell B bx J W0 W v cur) (ho : OB W1 B v1 (cur ++ p)) (m : Moved W W1 v v1) :
    (W1.cell? ⟨bx, 0, none⟩ = some v ∧ W1.frozen? ⟨bx, 0, none⟩ = false) ∧ TgCell B bx J W0 (W1.setCell ⟨bx, 0, none⟩ v1) v1 (cur ++ p) := by
  have hz := h.chg.size
  have hz1 := m.grown.size
  have hl := h.lt
  have hb : W1.heap[bx]? = some (.cells #[v] 22 (0, 0)) := (m.grown.block bx (by omega) (fun e => h.ne e.symm)).trans h.cell
  have hn1 : v1.ownBlock ≠ some bx := fun e => by
    rcases m.here bx e with q | q
    · exact h.ne q
    · omega
  have hs : ∀ k, k ≠ bx → (W1.setCell ⟨bx, 0, none⟩ v1).heap[k]? = W1.heap[k]? := fun k hk => Below.heap_setCell _ _ _ _ hk
  have hzz : (W1.setCell ⟨bx, 0, none⟩ v1).heap.size = W1.heap.size := by simp [World.setCell]
  refine ⟨⟨cellOf hb 0 _ rfl, freeOf hb 0⟩, ?_, ?_, hn1, fun k e => ?_, ⟨?_, ?_, ?_, by omega, fun k hk hj => ?_⟩, h.jb, hl, h.le⟩
  · simpa using heap_set (i := 0) hb v1
  · obtain ⟨h1, h2 | ⟨g, cap, cu, e, hbb, hg, r⟩⟩ := ho
    · exact ⟨h1, .inl h2⟩
    · refine ⟨h1, .inr ⟨g, cap, cu, e, hbb, ?_, r⟩⟩
      rw [hs g (fun q => hn1 (by rw [e, q]; rfl))]
      exact hg
  · rcases m.here k e with q | q
    · exact h.here k q
    · exact .inr (by omega)
  · exact m.grown.os.trans h.chg.os
  · exact m.grown.tape.trans h.chg.tape
  · exact m.grown.output.trans h.chg.output
  · have hkb : k ≠ bx := fun e => hj (e ▸ h.jb)
    rw [hs k hkb, m.grown.block k (by omega) (fun e => ?_), h.chg.block k hk hj]
    rcases h.here k e.symm with q | q
    · exact hj q
    · omega
/-- .. d tags are in -/
def TgSt (B bx : Nat) (acc : Bs) (us : List Tg) (d : Nat) (J : Nat → Prop) (W : World) : Prop :=
  ∃ v, TgCell B bx J W W v (acc ++ ((us.take d).map tagP).flatten) ∧ (∀ k, v.ownBlock = some k → J k) ∧ (∀ k, J k → B ≤ k)
set_option maxHeartbeats 1000000 in
set_option maxRecDepth 100000 in
theorem each_step {G : Nat → Prop} {W : World} {B bx d : Nat} {acc : Bs} {us : List Tg} {J : Nat → Prop} {x : Value} (h : TgSt B bx acc us d J W) (hd : d < us.length) (hk : us[d].1 < 4294967296) (hl : us[d].2.length ≤ 1000000) (hx : RB W G x us[d].2) (hGB : ∀ k, G k → k < B) (hb : (acc ++ (us.map tagP).flatten).length ≤ 40000000000000) :
    Calls Try.prog 102 #[.int .u32 (us[d].1 : Int), x, .pointer (some ⟨bx, 0, none⟩)] W fun e W' => e = .returned (.tuple #[]) ∧ ∃ J', TgSt B bx acc us (d + 1) J' W' ∧ (∀ j, J' j → J j ∨ W.heap.size ≤ j) ∧ Chg J W W' := by
  obtain ⟨v, hc, hJv, hJB⟩ := h
  obtain ⟨ax, cx, rfl⟩ := RS.shape hx
  have hsuc : ((us.take (d + 1)).map tagP).flatten = ((us.take d).map tagP).flatten ++ (uvarP us[d].1 ++ uvarP us[d].2.length ++ us[d].2) := by
    rw [List.take_succ_eq_append_getElem hd, List.map_append, List.flatten_append]
    simp only [List.map_cons, List.map_nil, List.flatten_cons, List.flatten_nil, List.append_nil]
    rfl
  have hlen : (acc ++ ((us.take (d + 1)).map tagP).flatten).length ≤ 40000000000000 := by
    have e3 : (us.map tagP).flatten = ((us.take (d + 1)).map tagP).flatten ++ ((us.drop (d + 1)).map tagP).flatten := by
      rw [← List.flatten_append, ← List.map_append, List.take_append_drop]
    rw [e3] at hb
    simp only [List.length_append] at hb ⊢
    omega
  have HSUC : Hid _ := Lib.hid hsuc
  rw [hsuc] at hlen
  simp only [List.length_append] at hlen
  clear hsuc hb
  generalize ((us.take d).map tagP).flatten = cur at *
  generalize us[d].1 = key at *
  generalize us[d].2 = val at *
  obtain ⟨c0, f0⟩ := hc.rd
  have hBW := hc.le
  have tok1 : Hid True := Lib.hid trivial
  go_enter Try.func102, Try.ntmps102
  go_wp2_with (first
    | (go_at_call 68; have _t := tok1; go_loud (refine (appuv_at hc.own hBW hk (by simp only [List.length_append]; omega)).mono ?_; rintro e w1 ⟨v1, rfl, h1, m1⟩; obtain ⟨a1, n1, p1, rfl⟩ := h1.shp; clear tok1 _t c0 f0; obtain ⟨⟨c0, f0⟩, hc1⟩ := hc.step h1 m1; have q1 := hc1.rd; have z1 := hc1.chg.size; have tok2 : Hid True := Lib.hid trivial))
    | (go_at_call 68; have _t := tok2; go_loud (refine (appuv_at (n := val.length) hc1.own (by omega) (by omega) (by simp only [List.length_append]; omega)).mono ?_; rintro e w3 ⟨v3, rfl, h3, m3⟩; obtain ⟨a3, n3, p3, rfl⟩ := h3.shp; clear tok2 _t c0 f0 q1; obtain ⟨⟨c0, f0⟩, hc3⟩ := hc1.step h3 m3; have q3 := hc3.rd; have z3 := hc3.chg.size; have tok3 : Hid True := Lib.hid trivial))
    | (at_builtin; have _t := tok3; go_loud (refine app_at rfl _ _ rfl B _ _ rfl hc3.own _ val G rfl (hx.keepF (fun k hk => hc3.chg.block k (by have := hGB k hk; omega) (fun e => by have := hJB k e; have := hGB k hk; omega)) (fun _ h => h)) (by simp only [List.length_append]; omega) (by omega) ?_; intro v5 w5 h5 m5; obtain ⟨a5, n5, p5, rfl⟩ := h5.shp; clear tok3 _t c0 f0 q3; obtain ⟨⟨c0, f0⟩, hc5⟩ := hc3.step h5 m5)))
  refine bodyPost_end (v := .tuple #[]) (by simp [results, Try.results102, go_sem]) rfl ⟨rfl, fun j => J j ∨ W.heap.size ≤ j, ?_, fun _ h => h, hc5.chg⟩
  refine ⟨_, ⟨hc5.cell, ?_, hc5.ne, fun k e => .inl (hc5.here k e), Chg.refl _ _, .inl hc5.jb, Nat.lt_of_lt_of_le hc5.lt hc5.chg.size, Nat.le_trans hc5.le hc5.chg.size⟩, fun k e => hc5.here k e, fun k hk => hk.elim (hJB k) (fun h => by omega)⟩
  rw [HSUC.out, ← List.append_assoc, ← List.append_assoc, ← List.append_assoc]
  exact hc5.own
set_option maxHeartbeats 1000000 in
set_option maxRecDepth 100000 in
theorem appeach_any {G : Nat → Prop} {b i B : Nat} {vm v : Value} {us : List Tg} {w : World} {c : Array Value} {t : TypeId} {acc : Bs} (hb : w.heap[b]? = some (.cells c t (0, 0))) (hc : c[i]? = some vm) (hm : MP w G vm us) (hbB : b < B) (hGB : ∀ k, G k → k < B) (ho : OB w B v acc) (hB : B ≤ w.heap.size) (hs : ∀ x ∈ us, x.2.length ≤ 1000000) (hl : (acc ++ (us.map tagP).flatten).length ≤ 40000000000000) :
    Calls Try.prog 70 #[.pointer (some ⟨b, i, none⟩), v] w fun e w' => ∃ v', e = .returned v' ∧ OB w' B v' (acc ++ (us.map tagP).flatten) ∧ Below B w w' := by
  obtain ⟨n, m, hn, hmo, hmb, rfl, hoct⟩ := hm
  obtain ⟨av, nv, cv, rfl⟩ := ho.shp
  obtain ⟨w1, hw1⟩ : ∃ x, x = w.alloc (.cells #[.slice av nv cv] 22) := ⟨_, rfl⟩
  have k1 : Keep [] w w1 := by rw [hw1]; exact keep_box _
  have hbx : w1.heap[w.heap.size]? = some (.cells #[.slice av nv cv] 22 (0, 0)) := by rw [hw1]; exact heap_alloc_new w _
  have hz1 : w1.heap.size = w.heap.size + 1 := by rw [hw1]; simp
  have hkeys := hmo.2.1
  have ST0 : TgSt B w.heap.size acc (m.map fun x => (x.1, x.2.2)) 0 (fun k => B ≤ k ∧ k < w1.heap.size) w1 :=
    ⟨_, ⟨hbx, by simpa using ho.keep k1, (fun e => by have := (ho.lt _ e).2; omega), fun k e => .inl ⟨(ho.lt k e).1, by have := (ho.lt k e).2; omega⟩, Chg.refl _ _, ⟨hB, by omega⟩, by omega, by omega⟩, fun k e => ⟨(ho.lt k e).1, by have := (ho.lt k e).2; omega⟩, fun k hk => hk.1⟩
  have EACH := each_any (i := i) (v := vm) (n := n) (tv := m.map fun x => (x.1, x.2.1)) (w := w1) (p := .pointer (some ⟨w.heap.size, 0, none⟩)) ((k1.block b (by omega) (by simp)).trans hb) hc (hmo.kept (fun k hk => k1.block k (by have := hGB k (hmb k hk); omega) (by simp))) (by omega)
    (enters_of Try.func102 (by kernel_rfl) rfl) (fun d J W => TgSt B w.heap.size acc (m.map fun x => (x.1, x.2.2)) d J W ∧ (∀ k, k < B → W.heap[k]? = w.heap[k]?)) (fun k => B ≤ k ∧ k < w1.heap.size) ⟨ST0, fun k hk => k1.block k (by omega) (by simp)⟩ (fun h => by omega) (fun k hk h => by have := hGB k (hmb k hk); omega) (fun k hk => hk.2)
    (fun d J W W' hI hK => by
      obtain ⟨⟨v', hc', h2, h3⟩, h4⟩ := hI
      have hz := hK.size
      have hl' := hc'.lt
      have hle := hc'.le
      exact ⟨⟨v', ⟨(hK.block _ hl' (by simp)).trans hc'.cell, hc'.own.keep hK, hc'.ne, fun k e => .inl (h2 k e), Chg.refl _ _, hc'.jb, by omega, by omega⟩, h2, h3⟩, fun k hk => (hK.block k (by omega) (by simp)).trans (h4 k hk)⟩)
    (fun j hj J W hI hW => by
      obtain ⟨hst, hbel⟩ := hI
      have hjm : j < m.length := by simpa using hj
      have hx : RB W G (m[j]).2.1 (m[j]).2.2 := (hoct _ (List.getElem_mem hjm)).keepF (fun k hk => hbel k (hGB k hk)) (fun _ h => h)
      have S := each_step (G := G) (x := (m[j]).2.1) hst (by simpa using hjm) (by simpa using hkeys _ (List.mem_map.2 ⟨m[j], List.getElem_mem hjm, rfl⟩)) (by simpa using hs _ (List.mem_map.2 ⟨m[j], List.getElem_mem hjm, rfl⟩)) (by simpa using hx) hGB hl
      simp only [List.getElem_map] at S ⊢
      refine S.mono ?_
      rintro e W' ⟨rfl, J', h1, h2, h3⟩
      obtain ⟨_, _, _, h5⟩ := id h1
      obtain ⟨v0, hc0, _, hJB0⟩ := hst
      exact ⟨rfl, J', ⟨h1, fun k hk => (h3.block k (by have := hc0.le; omega) (fun e => by have := hJB0 k e; omega)).trans (hbel k hk)⟩, h2, h3⟩)
  clear ST0
  have HE : Hid _ := Lib.hid EACH
  clear EACH
  go_enter Try.func70, Try.ntmps70
  subst hw1
  go_wp2_with (go_at_call 101; go_loud (refine Calls.mono HE.out ?_; rintro e w2 ⟨rfl, J', ⟨⟨v2, hc2, hj2, hb2⟩, hbel⟩, hjj, hch⟩; obtain ⟨a2, n2, p2, rfl⟩ := hc2.own.shp; obtain ⟨c0, f0⟩ := hc2.rd))
  go_ret
  refine ⟨_, rfl, ?_, hch.os, hch.tape, hch.output, Nat.le_trans (by simp) hch.size, hbel⟩
  have e := hc2.own
  rw [List.take_of_length_le (by simp)] at e
  exact e
end Go.Proofs.Ytidebamgmbdnaaa
/-
  A struct's cells within a block; fields taken apart.
-/
namespace Go.Proofs.Ytidebamgmbdnaaa
open Go.ChangeShapes Go.WideShapes Go.ChangeAt Go.RowKit

/-- a struct's cells within a block -/
def Pt (W : World) (pb po : Nat) (c : List Value) : Prop := ∃ pre post ty, W.heap[pb]? = some (.cells (pre ++ (c ++ post)).toArray ty (0, 0)) ∧ pre.length = po
theorem Pt.keep {A : List Nat} {W W' : World} {pb po : Nat} {c : List Value} (h : Pt W pb po c) (k : Keep A W W') (ha : pb ∉ A) : Pt W' pb po c := by
  obtain ⟨pre, post, ty, h1, h2⟩ := h
  exact ⟨pre, post, ty, (k.block pb (World.heap_lt h1) ha).trans h1, h2⟩
theorem Pt.cell {W : World} {pb po : Nat} {c : List Value} (h : Pt W pb po c) {o j : Nat} {v : Value} (ho : o = po + j) (hv : c[j]? = some v) : W.cell? ⟨pb, o, none⟩ = some v := by
  obtain ⟨pre, post, ty, h1, h2⟩ := h
  refine cellOf h1 o _ ?_
  have hj := (List.getElem?_eq_some_iff.1 hv).1
  subst ho h2
  simp [List.getElem?_append_right, List.getElem?_append_left hj, hv]
theorem Pt.lt {W : World} {pb po : Nat} {c : List Value} (h : Pt W pb po c) : pb < W.heap.size := by
  obtain ⟨pre, post, ty, h1, h2⟩ := h
  exact World.heap_lt h1
theorem Pt.whole {W : World} {pb po : Nat} {c : List Value} (h : Pt W pb po c) {o j : Nat} {v : Value} (ho : o = po + j) (hv : c[j]? = some v) : ∃ arr ty, W.heap[pb]? = some (.cells arr ty (0, 0)) ∧ arr[o]? = some v := by
  obtain ⟨pre, post, ty, h1, h2⟩ := h
  have hj := (List.getElem?_eq_some_iff.1 hv).1
  refine ⟨_, ty, h1, ?_⟩
  subst ho h2
  simp [List.getElem?_append_right, List.getElem?_append_left hj, hv]

section
variable {W : World} {G : Nat → Prop} {a b nul c d e : Int} {sub : List F} {cs : List Value} {t : T}
theorem vf_bool_inv (h : VF W G (.mk 0 a b nul c d e sub) cs t) : ∃ x : Bool, cs = [.bool x] ∧ t = .mk (if x then 1 else 0) [] false [] [] := h
theorem vf_i8_inv (h : VF W G (.mk 1 a b nul c d e sub) cs t) : ∃ n : Int, cs = [.int .i8 n] ∧ (-128 ≤ n ∧ n ≤ 127) ∧ t = .mk n [] false [] [] := h
theorem vf_i16_inv (h : VF W G (.mk 2 a b nul c d e sub) cs t) : ∃ n : Int, cs = [.int .i16 n] ∧ (-32768 ≤ n ∧ n ≤ 32767) ∧ t = .mk n [] false [] [] := h
theorem vf_i32_inv (h : VF W G (.mk 3 a b nul c d e sub) cs t) : ∃ n : Int, cs = [.int .i32 n] ∧ (-2147483648 ≤ n ∧ n ≤ 2147483647) ∧ t = .mk n [] false [] [] := h
theorem vf_i64_inv (h : VF W G (.mk 4 a b nul c d e sub) cs t) : ∃ n : Int, cs = [.int .i64 n] ∧ (-9223372036854775808 ≤ n ∧ n ≤ 9223372036854775807) ∧ t = .mk n [] false [] [] := h
theorem vf_8 (h : VF W G (.mk 8 a b nul c d e sub) cs t) : if 0 ≤ nul then ∃ v o, cs = [v] ∧ PS W G v o ∧ t = nstrT o else ∃ x : Bs, cs = [str x] ∧ t = .mk 0 x false [] [] := by
  have h' : VK W G 8 nul (VFs W G sub) cs t := h
  simp only [VK] at h'
  rw [if_neg (by decide), if_neg (by decide), if_neg (by decide), if_neg (by decide), if_neg (by decide), if_neg (by decide), if_neg (by decide), if_pos True.intro] at h'
  exact h'
theorem vf_str_inv (hn : nul < 0) (h : VF W G (.mk 8 a b nul c d e sub) cs t) : ∃ x : Bs, cs = [.string ⟨x.toArray⟩] ∧ t = .mk 0 x false [] [] := by
  have h' := vf_8 h
  rw [if_neg (by omega)] at h'
  exact h'
theorem vf_nstr_inv (hn : 0 ≤ nul) (h : VF W G (.mk 8 a b nul c d e sub) cs t) : ∃ v o, cs = [v] ∧ PS W G v o ∧ t = nstrT o := by
  have h' := vf_8 h
  rw [if_pos hn] at h'
  exact h'
theorem vf_uuid_inv (h : VF W G (.mk 7 a b nul c d e sub) cs t) : ∃ x : Bs, x.length = 16 ∧ cs = x.map bv ∧ t = .mk 0 x false [] [] := h
theorem vf_part_inv (h : VF W G (.mk 10 a b nul c d e sub) cs t) : ∃ cs' v l u, cs = cs' ++ [v] ∧ VFs W G sub cs' l ∧ MP W G v u ∧ t = .mk 0 [] false l u := h
theorem vf_f64_inv (h : VF W G (.mk 6 a b nul c d e sub) cs t) : ∃ n : Nat, n < 18446744073709551616 ∧ cs = [.float .f64 n] ∧ t = .mk (sgn 8 n) [] false [] [] := h
theorem vf_oct_inv (h : VF W G (.mk 9 a b nul c d e sub) cs t) : ∃ v o, cs = [v] ∧ OS W G v o ∧ t = octT o := h
theorem vf_list_inv (h : VF W G (.mk 11 a b nul c d e sub) cs t) : ∃ v, cs = [v] ∧ VL W G (VK W G e (-1) (VFs W G sub)) (wdK e (wdFs sub)) v t := h
end
theorem RW.part {W : World} {G : Nat → Prop} {v : Value} {css : List (List Value)} {m n : Nat} (h : RW W G v n css.flatten) (hn : css.length = n) (hm : ∀ c ∈ css, c.length = m) {i : Nat} (hi : i < css.length) : ∃ row cap, v = .slice (some ⟨row, 0, none⟩) n cap ∧ n ≤ cap ∧ G row ∧ Pt W row (i * m) css[i] := by
  subst hn
  rcases h with ⟨h0, _⟩ | ⟨h0, row, cap, extra, ty, h1, h2, h3, h4⟩
  · omega
  · refine ⟨row, cap, h1, h2, h3, (css.take i).flatten, (css.drop (i + 1)).flatten ++ extra, ty, ?_, ?_⟩
    · have e : css = css.take i ++ css[i] :: css.drop (i + 1) := by rw [← List.drop_eq_getElem_cons hi, List.take_append_drop]
      have e2 : css.flatten = (css.take i).flatten ++ (css[i] ++ (css.drop (i + 1)).flatten) := by
        have e3 := congrArg List.flatten e
        rw [List.flatten_append, List.flatten_cons] at e3
        exact e3
      have e4 : css.flatten ++ extra = (css.take i).flatten ++ (css[i] ++ ((css.drop (i + 1)).flatten ++ extra)) := by rw [e2, List.append_assoc, List.append_assoc]
      rw [h4, e4]
    · rw [flatten_len _ m (fun c hc => hm c (List.mem_of_mem_take hc)), List.length_take, Nat.min_eq_left (by omega), Nat.mul_comm]
theorem small_text {N : Nat} {o : Option Bs} (h : small N (nstrT o)) : ∀ x, o = some x → x.length ≤ N := by
  rintro x rfl
  exact h.1
theorem small_oct {N : Nat} {o : Option Bs} (h : small N (octT o)) : ∀ x, o = some x → x.length ≤ N := by
  rintro x rfl
  exact h.1
section
variable {W : World} {G : Nat → Prop} {nul : Int} {p : List Value → List T → Prop} {cs : List Value} {t : T}
theorem vk_i8_inv (h : VK W G 1 nul p cs t) : ∃ n : Int, cs = [.int .i8 n] ∧ (-128 ≤ n ∧ n ≤ 127) ∧ t = .mk n [] false [] [] := h
theorem vk_i16_inv (h : VK W G 2 nul p cs t) : ∃ n : Int, cs = [.int .i16 n] ∧ (-32768 ≤ n ∧ n ≤ 32767) ∧ t = .mk n [] false [] [] := h
theorem vk_i32_inv (h : VK W G 3 nul p cs t) : ∃ n : Int, cs = [.int .i32 n] ∧ (-2147483648 ≤ n ∧ n ≤ 2147483647) ∧ t = .mk n [] false [] [] := h
theorem vk_i64_inv (h : VK W G 4 nul p cs t) : ∃ n : Int, cs = [.int .i64 n] ∧ (-9223372036854775808 ≤ n ∧ n ≤ 9223372036854775807) ∧ t = .mk n [] false [] [] := h
theorem vk_str_inv (h : VK W G 8 (-1) p cs t) : ∃ x : Bs, cs = [.string ⟨x.toArray⟩] ∧ t = .mk 0 x false [] [] := by
  have h2 : ∃ x : Bs, cs = [str x] ∧ t = .mk 0 x false [] [] := by
    simp only [VK] at h
    simpa using h
  exact h2
end
end Go.Proofs.Ytidebamgmbdnaaa
/-
  Which versions have a field.
-/
namespace Go.Proofs.Ytidebamgmbdnaaa
section
variable {k a b nul tag d o v : Int} {sub : List F}
theorem has_yes (h1 : a ≤ v) (h2 : b < 0 ∨ v ≤ b) : F.has (.mk k a b nul tag d o sub) v = true := by
  show (decide (a ≤ v) && (decide (b < 0) || decide (v ≤ b))) = true
  simp [h1, h2]
theorem has_no1 (h1 : ¬ a ≤ v) : F.has (.mk k a b nul tag d o sub) v = false := by
  show (decide (a ≤ v) && (decide (b < 0) || decide (v ≤ b))) = false
  simp [h1]
theorem has_no2 (h1 : ¬ v ≤ b) (h2 : 0 ≤ b) : F.has (.mk k a b nul tag d o sub) v = false := by
  show (decide (a ≤ v) && (decide (b < 0) || decide (v ≤ b))) = false
  have h3 : ¬ b < 0 := by omega
  simp [h1, h3]
end
end Go.Proofs.Ytidebamgmbdnaaa
/-
  To store what lies there changes nothing.
-/
namespace Go.Proofs.Ytidebamgmbdnaaa
open Go.ChangeShapes Go.WideShapes Go.ChangeAt Go.RowKit

theorem setCell_self {w : World} {b i : Nat} {v : Value} (h : w.cell? ⟨b, i, none⟩ = some v) : w.setCell ⟨b, i, none⟩ v = w := by
  unfold World.cell? at h
  have hh : (w.setCell ⟨b, i, none⟩ v).heap = w.heap := by
    unfold World.setCell
    refine Array.ext (by simp) fun j h1 h2 => ?_
    simp only
    rw [Array.getElem_modify]
    split
    · rename_i e
      subst e
      rw [Array.getElem?_eq_getElem h2] at h
      split at h
      · rename_i c t f e
        rw [Option.some.inj e]
        simp only [Option.isSome_none, Bool.false_eq_true, if_false] at h ⊢
        congr 1
        refine Array.ext (by simp) fun k k1 k2 => ?_
        rw [Array.getElem_setIfInBounds]
        split
        · rename_i e2
          subst e2
          rw [Array.getElem?_eq_getElem k2] at h
          exact (Option.some.inj h).symm
        · rfl
      · cases h
    · rfl
  calc w.setCell ⟨b, i, none⟩ v = { w with heap := (w.setCell ⟨b, i, none⟩ v).heap } := rfl
    _ = w := by rw [hh]
end Go.Proofs.Ytidebamgmbdnaaa
/-
  HOW FAR A MESSAGE HAS BEEN WRITTEN: the states of AppendTo's walks.
-/
namespace Go.Proofs.Ytidebamgmbdnaaa
open Go.ChangeShapes Go.WideShapes Go.ChangeAt Go.RowKit

/-- F is being written: rest is to come -/
structure ApSt (w U : World) (B : Nat) (v : Value) (F rest : Bs) : Prop where
  cur : ∃ c, OB U B v c ∧ c ++ rest = F
  len : F.length ≤ 40000000000000
  below : Below B w U
  le : B ≤ w.heap.size
namespace ApSt
variable {w U : World} {B : Nat} {v : Value} {F p rest : Bs}
theorem le' (h : ApSt w U B v F rest) : B ≤ U.heap.size := Nat.le_trans h.le h.below.size
theorem at_ (h : ApSt w U B v F rest) {k o : Nat} {x : Value} (hc : w.cell? ⟨k, o, none⟩ = some x) (hk : k < B) : U.cell? ⟨k, o, none⟩ = some x := (h.below.cell (p := ⟨k, o, none⟩) hk).trans hc
theorem blk (h : ApSt w U B v F rest) {k : Nat} (hk : k < B) : U.heap[k]? = w.heap[k]? := h.below.block k hk
theorem same (h : ApSt w U B v F rest) {G : Nat → Prop} (hG : ∀ k, G k → k < B) : SameOn G w U := fun k hk => h.below.block k (hG k hk)
theorem call (h : ApSt w U B v F (p ++ rest)) {fn : Nat} {args : Array Value} (hc : ∀ acc, OB U B v acc → acc.length + p.length ≤ 40000000000000 → Calls Try.prog fn args U fun e U' => ∃ v', e = .returned v' ∧ OB U' B v' (acc ++ p) ∧ Below B U U') :
    Calls Try.prog fn args U fun e U' => ∃ v', e = .returned v' ∧ ApSt w U' B v' F rest := by
  obtain ⟨c, ho, hf⟩ := h.cur
  have hl := h.len
  refine (hc c ho (by rw [← hf] at hl; simp only [List.length_append] at hl; omega)).mono ?_
  rintro e U' ⟨v', rfl, h1, h2⟩
  exact ⟨v', rfl, ⟨c ++ p, h1, by rw [List.append_assoc]; exact hf⟩, h.len, h.below.trans h2, h.le⟩
theorem i16 {n : Int} (h : ApSt w U B v F (fixedP n 2 ++ rest)) : Calls Try.prog 66 #[v, .int .i16 n] U fun e U' => ∃ v', e = .returned v' ∧ ApSt w U' B v' F rest := h.call fun _ ho hl => appi16_any ho h.le' (by omega)
theorem i32 {n : Int} (h : ApSt w U B v F (fixedP n 4 ++ rest)) : Calls Try.prog 65 #[v, .int .i32 n] U fun e U' => ∃ v', e = .returned v' ∧ ApSt w U' B v' F rest := h.call fun _ ho hl => appi32_any ho h.le' (by omega)
theorem i64 {n : Int} (h : ApSt w U B v F (fixedP n 8 ++ rest)) : Calls Try.prog 67 #[v, .int .i64 n] U fun e U' => ∃ v', e = .returned v' ∧ ApSt w U' B v' F rest := h.call fun _ ho hl => appi64_any ho h.le' (by omega)
theorem st {s : Bs} (h : ApSt w U B v F ((fixedP s.length 2 ++ s) ++ rest)) (hs : s.length ≤ 1000000) : Calls Try.prog 82 #[v, .string ⟨s.toArray⟩] U fun e U' => ∃ v', e = .returned v' ∧ ApSt w U' B v' F rest := h.call fun _ ho hl => appstr_any ho h.le' (by omega) (by omega)
theorem cst {s : Bs} (h : ApSt w U B v F ((uvarP (s.length + 1) ++ s) ++ rest)) (hs : s.length ≤ 1000000) : Calls Try.prog 81 #[v, .string ⟨s.toArray⟩] U fun e U' => ∃ v', e = .returned v' ∧ ApSt w U' B v' F rest := h.call fun _ ho hl => appcstr_any ho h.le' (by omega) hs
theorem nst {G : Nat → Prop} {p : Value} {o : Option Bs} (h : ApSt w U B v F (nstrP o ++ rest)) (hp : PS w G p o) (hG : ∀ k, G k → k < B) (hs : ∀ x, o = some x → x.length ≤ 1000000) : Calls Try.prog 90 #[v, p] U fun e U' => ∃ v', e = .returned v' ∧ ApSt w U' B v' F rest := h.call fun _ ho hl => appnstr_any ho (hp.keepF (h.same hG) (fun _ h => h)) h.le' (by omega) hs
theorem cnst {G : Nat → Prop} {p : Value} {o : Option Bs} (h : ApSt w U B v F (cnstrP o ++ rest)) (hp : PS w G p o) (hG : ∀ k, G k → k < B) (hs : ∀ x, o = some x → x.length ≤ 1000000) : Calls Try.prog 89 #[v, p] U fun e U' => ∃ v', e = .returned v' ∧ ApSt w U' B v' F rest := h.call fun _ ho hl => appcnstr_any ho (hp.keepF (h.same hG) (fun _ h => h)) h.le' (by omega) hs
theorem ln {n : Nat} (h : ApSt w U B v F (fixedP n 4 ++ rest)) (hn : n ≤ 1000000) : Calls Try.prog 80 #[v, .int .i64 (n : Int)] U fun e U' => ∃ v', e = .returned v' ∧ ApSt w U' B v' F rest := h.call fun _ ho hl => applen_any ho h.le' (by omega) hn
theorem cln {n : Nat} (h : ApSt w U B v F (uvarP (n + 1) ++ rest)) (hn : n ≤ 1000000) : Calls Try.prog 79 #[v, .int .i64 (n : Int)] U fun e U' => ∃ v', e = .returned v' ∧ ApSt w U' B v' F rest := h.call fun _ ho hl => appclen_any ho h.le' (by omega) hn
theorem nln {n : Nat} {b : Bool} (h : ApSt w U B v F ((if b then fixedP (-1) 4 else fixedP n 4) ++ rest)) (hn : n ≤ 1000000) : Calls Try.prog 92 #[v, .int .i64 (n : Int), .bool b] U fun e U' => ∃ v', e = .returned v' ∧ ApSt w U' B v' F rest := h.call fun _ ho hl => appnlen_any ho h.le' (by omega) hn
theorem cnln {n : Nat} {b : Bool} (h : ApSt w U B v F ((if b then [0] else uvarP (n + 1)) ++ rest)) (hn : n ≤ 1000000) : Calls Try.prog 91 #[v, .int .i64 (n : Int), .bool b] U fun e U' => ∃ v', e = .returned v' ∧ ApSt w U' B v' F rest := h.call fun _ ho hl => appcnlen_any ho h.le' (by omega) hn
theorem uuid {x : Bs} (hx : x.length = 16) (h : ApSt w U B v F (x ++ rest)) : Calls Try.prog 93 #[v, .agg (x.map bv).toArray] U fun e U' => ∃ v', e = .returned v' ∧ ApSt w U' B v' F rest := h.call fun _ ho hl => appuuid_any ho h.le' (by omega) hx
theorem uuid16 {x0 x1 x2 x3 x4 x5 x6 x7 x8 x9 x10 x11 x12 x13 x14 x15 : UInt8} (h : ApSt w U B v F ([x0, x1, x2, x3, x4, x5, x6, x7, x8, x9, x10, x11, x12, x13, x14, x15] ++ rest)) : Calls Try.prog 93 #[v, .agg #[.int .u8 (x0.toNat : Int), .int .u8 (x1.toNat : Int), .int .u8 (x2.toNat : Int), .int .u8 (x3.toNat : Int), .int .u8 (x4.toNat : Int), .int .u8 (x5.toNat : Int), .int .u8 (x6.toNat : Int), .int .u8 (x7.toNat : Int), .int .u8 (x8.toNat : Int), .int .u8 (x9.toNat : Int), .int .u8 (x10.toNat : Int), .int .u8 (x11.toNat : Int), .int .u8 (x12.toNat : Int), .int .u8 (x13.toNat : Int), .int .u8 (x14.toNat : Int), .int .u8 (x15.toNat : Int)]] U fun e U' => ∃ v', e = .returned v' ∧ ApSt w U' B v' F rest := ApSt.uuid (x := [x0, x1, x2, x3, x4, x5, x6, x7, x8, x9, x10, x11, x12, x13, x14, x15]) rfl h
theorem uv {n : Nat} (h : ApSt w U B v F (uvarP n ++ rest)) (hn : n ≤ 1000000) : Calls Try.prog 68 #[v, .int .u32 (n : Int)] U fun e U' => ∃ v', e = .returned v' ∧ ApSt w U' B v' F rest := h.call fun _ ho hl => appuv_any ho h.le' (by omega) (by omega)
theorem tlen {G : Nat → Prop} {b i : Nat} {vm : Value} {u : List Tg} {c : List Value} {po j : Nat} (h : ApSt w U B v F rest) (hp : Pt w b po c) (ho : i = po + j) (hc : c[j]? = some vm) (hm : MP w G vm u) (hb : b < B) (hG : ∀ k, G k → k < B) :
    Calls Try.prog 69 #[.pointer (some ⟨b, i, none⟩)] U fun e w' => e = .returned (.int .i64 (u.length : Int)) ∧ U = w' := by
  obtain ⟨arr, ty, h1, h2⟩ := hp.whole ho hc
  exact tlen_any ((h.blk hb).trans h1) h2 (hm.keepF (h.same hG) (fun _ h => h))
theorem tg {G : Nat → Prop} {b i : Nat} {vm : Value} {u : List Tg} {c : List Value} {po j : Nat} (h : ApSt w U B v F ((u.map tagP).flatten ++ rest)) (hp : Pt w b po c) (ho : i = po + j) (hc : c[j]? = some vm) (hm : MP w G vm u) (hb : b < B) (hG : ∀ k, G k → k < B) (hs : ∀ x ∈ u, x.2.length ≤ 1000000) :
    Calls Try.prog 70 #[.pointer (some ⟨b, i, none⟩), v] U fun e U' => ∃ v', e = .returned v' ∧ ApSt w U' B v' F rest := by
  obtain ⟨arr, ty, h1, h2⟩ := hp.whole ho hc
  exact h.call fun acc hoo hl => appeach_any ((h.blk hb).trans h1) h2 (hm.keepF (h.same hG) (fun _ h => h)) hb hG hoo h.le' hs (by simp only [List.length_append]; omega)
theorem calm {U' : World} (h : ApSt w U B v F rest) (k : Keep [] U U') : ApSt w U' B v F rest := by
  obtain ⟨c, h1, h2⟩ := h.cur
  exact ⟨⟨c, h1.keep k, h2⟩, h.len, h.below.trans ⟨k.os, k.tape, k.output, k.size, fun i hi => k.block i (Nat.lt_of_lt_of_le hi h.le') (by simp)⟩, h.le⟩
theorem start {acc X : Bs} (ho : OB w B v acc) (hB : B ≤ w.heap.size) (hl : (acc ++ X).length ≤ 40000000000000) : ApSt w w B v (acc ++ X) X := ⟨⟨acc, ho, rfl⟩, hl, Below.refl _ _, hB⟩
theorem done (h : ApSt w U B v F []) : OB U B v F ∧ Below B w U := by
  obtain ⟨c, h1, h2⟩ := h.cur
  rw [List.append_nil] at h2
  subst h2
  exact ⟨h1, h.below⟩
end ApSt
/-! what a field's octets are -/
section
variable {a b nul c d e ver : Int} {sub : List F}
theorem apF_bool {fx x : Bool} : apF (.mk 0 a b nul c d e sub) ver fx (.mk (if x then 1 else 0) [] false [] []) = [if x then 1 else 0] := by cases x <;> rfl
theorem apF_i8 {fx : Bool} {n : Int} : apF (.mk 1 a b nul c d e sub) ver fx (.mk n [] false [] []) = fixedP n 1 := rfl
theorem apF_i16 {fx : Bool} {n : Int} : apF (.mk 2 a b nul c d e sub) ver fx (.mk n [] false [] []) = fixedP n 2 := rfl
theorem apF_i32 {fx : Bool} {n : Int} : apF (.mk 3 a b nul c d e sub) ver fx (.mk n [] false [] []) = fixedP n 4 := rfl
theorem apF_i64 {fx : Bool} {n : Int} : apF (.mk 4 a b nul c d e sub) ver fx (.mk n [] false [] []) = fixedP n 8 := rfl
theorem apF_uuid {fx : Bool} {x : Bs} : apF (.mk 7 a b nul c d e sub) ver fx (.mk 0 x false [] []) = x := rfl
theorem apF_str {x : Bs} : apF (.mk 8 a b nul c d e sub) ver false (.mk 0 x false [] []) = fixedP x.length 2 ++ x := rfl
theorem apF_cstr {x : Bs} : apF (.mk 8 a b nul c d e sub) ver true (.mk 0 x false [] []) = uvarP (x.length + 1) ++ x := rfl
theorem apF_nstr {o : Option Bs} (h0 : 0 ≤ nul) (h1 : nul ≤ ver) : apF (.mk 8 a b nul c d e sub) ver false (nstrT o) = nstrP o := by
  cases o with
  | none =>
    simp only [apF, apK, nstrT, F.isNull, F.nul, T.null, T.s, countedP, nstrP]
    simp [h0, h1]
  | some x => rfl
theorem apF_cnstr {o : Option Bs} (h0 : 0 ≤ nul) (h1 : nul ≤ ver) : apF (.mk 8 a b nul c d e sub) ver true (nstrT o) = cnstrP o := by
  cases o with
  | none =>
    simp only [apF, apK, nstrT, F.isNull, F.nul, T.null, T.s, countedP, cnstrP]
    simp [h0, h1]
  | some x => rfl
/-- a list's thing -/
def apE (ofk : Int) (sub : List F) (ver : Int) (fx : Bool) : T → Bs := apK ofk (fun t => apFs sub ver fx t.l ++ (if fx then apU t.u else [])) false fx
theorem getD_len {o : Option Bs} {N : Nat} (h : ∀ x, o = some x → x.length ≤ N) : (o.getD []).length ≤ N := by
  cases o with
  | none => simp
  | some x => exact h x rfl
theorem apF_nstrY {o : Option Bs} (h1 : ¬ nul ≤ ver) : apF (.mk 8 a b nul c d e sub) ver false (nstrT o) = fixedP (o.getD []).length 2 ++ o.getD [] := by
  cases o with
  | none =>
    simp only [apF, apK, nstrT, F.isNull, F.nul, T.null, T.s, countedP]
    simp [h1]
  | some x => rfl
theorem apF_cnstrY {o : Option Bs} (h1 : ¬ nul ≤ ver) : apF (.mk 8 a b nul c d e sub) ver true (nstrT o) = uvarP ((o.getD []).length + 1) ++ o.getD [] := by
  cases o with
  | none =>
    simp only [apF, apK, nstrT, F.isNull, F.nul, T.null, T.s, countedP]
    simp [h1]
  | some x => rfl
theorem apF_list {nu : Bool} {l : List T} (h : nul < 0) : apF (.mk 11 a b nul c d e sub) ver false (.mk 0 [] nu l []) = fixedP l.length 4 ++ l.flatMap (apE e sub ver false) := by
  simp only [apF, apE, F.isNull, F.nul, T.null, T.l, countedP]
  simp [show ¬ 0 ≤ nul by omega]
theorem apF_clist {nu : Bool} {l : List T} (h : nul < 0) : apF (.mk 11 a b nul c d e sub) ver true (.mk 0 [] nu l []) = uvarP (l.length + 1) ++ l.flatMap (apE e sub ver true) := by
  simp only [apF, apE, F.isNull, F.nul, T.null, T.l, countedP]
  simp [show ¬ 0 ≤ nul by omega]
theorem apF_nlist {nu : Bool} {l : List T} (h0 : 0 ≤ nul) (h1 : nul ≤ ver) : apF (.mk 11 a b nul c d e sub) ver false (.mk 0 [] nu l []) = (if nu then fixedP (-1) 4 else fixedP l.length 4) ++ l.flatMap (apE e sub ver false) := by
  simp only [apF, apE, F.isNull, F.nul, T.null, T.l, countedP]
  simp [h0, h1]
theorem apF_cnlist {nu : Bool} {l : List T} (h0 : 0 ≤ nul) (h1 : nul ≤ ver) : apF (.mk 11 a b nul c d e sub) ver true (.mk 0 [] nu l []) = (if nu then [0] else uvarP (l.length + 1)) ++ l.flatMap (apE e sub ver true) := by
  simp only [apF, apE, F.isNull, F.nul, T.null, T.l, countedP]
  cases nu <;> simp [h0, h1]
theorem apF_part {l : List T} {u : List Tg} : apF (.mk 10 a b (-1) c d e sub) ver false (.mk 0 [] false l u) = apFs sub ver false l := by
  show apFs sub ver false l ++ [] = _
  simp
theorem apF_cpart {l : List T} {u : List Tg} : apF (.mk 10 a b (-1) c d e sub) ver true (.mk 0 [] false l u) = apFs sub ver true l ++ (uvarP u.length ++ (u.map tagP).flatten) := rfl
theorem apF_listY {nu : Bool} {l : List T} (h : ¬ nul ≤ ver) : apF (.mk 11 a b nul c d e sub) ver false (.mk 0 [] nu l []) = fixedP l.length 4 ++ l.flatMap (apE e sub ver false) := by
  simp only [apF, apE, F.isNull, F.nul, T.null, T.l, countedP]
  simp [h]
theorem apF_clistY {nu : Bool} {l : List T} (h : ¬ nul ≤ ver) : apF (.mk 11 a b nul c d e sub) ver true (.mk 0 [] nu l []) = uvarP (l.length + 1) ++ l.flatMap (apE e sub ver true) := by
  simp only [apF, apE, F.isNull, F.nul, T.null, T.l, countedP]
  simp [h]
theorem apE_part {l : List T} {u : List Tg} : apE 10 sub ver false (.mk 0 [] false l u) = apFs sub ver false l := by
  show apFs sub ver false l ++ [] = _
  simp
theorem apE_cpart {l : List T} {u : List Tg} : apE 10 sub ver true (.mk 0 [] false l u) = apFs sub ver true l ++ (uvarP u.length ++ (u.map tagP).flatten) := rfl
theorem apE_i8 {fx : Bool} {n : Int} : apE 1 sub ver fx (.mk n [] false [] []) = fixedP n 1 := rfl
theorem apE_i16 {fx : Bool} {n : Int} : apE 2 sub ver fx (.mk n [] false [] []) = fixedP n 2 := rfl
theorem apE_i32 {fx : Bool} {n : Int} : apE 3 sub ver fx (.mk n [] false [] []) = fixedP n 4 := rfl
theorem apE_i64 {fx : Bool} {n : Int} : apE 4 sub ver fx (.mk n [] false [] []) = fixedP n 8 := rfl
theorem apE_str {x : Bs} : apE 8 sub ver false (.mk 0 x false [] []) = fixedP x.length 2 ++ x := rfl
theorem apE_cstr {x : Bs} : apE 8 sub ver true (.mk 0 x false [] []) = uvarP (x.length + 1) ++ x := rfl
theorem apPart_plain {fs : List F} {l : List T} {u : List Tg} : apPart fs ver false (.mk 0 [] false l u) = apFs fs ver false l := by
  show apFs fs ver false l ++ [] = _
  simp
theorem apPart_flex {fs : List F} {l : List T} {u : List Tg} : apPart fs ver true (.mk 0 [] false l u) = apFs fs ver true l ++ (uvarP u.length ++ (u.map tagP).flatten) := rfl
theorem apFs_has {f : F} {r : List F} {fx : Bool} {t : T} {l : List T} (h : f.has ver = true) : apFs (f :: r) ver fx (t :: l) = apF f ver fx t ++ apFs r ver fx l := by
  rw [apFs, if_pos h]
theorem apFs_lacks {f : F} {r : List F} {fx : Bool} {t : T} {l : List T} (h : f.has ver = false) : apFs (f :: r) ver fx (t :: l) = apFs r ver fx l := by
  rw [apFs, if_neg (by simp [h]), List.nil_append]
end
end Go.Proofs.Ytidebamgmbdnaaa
/-
  What the Behind laws share: a message that was read, seen from behind another call; how small what is told is; how long what is written is.
-/
namespace Go.Proofs.Ytidebamgmbdnaaa
open Go.ChangeShapes Go.WideShapes Go.ChangeAt Go.RowKit

theorem Keep.andBelow {a b c : World} (h : Keep [] a b) (k : Below a.heap.size b c) : Keep [] a c :=
  ⟨k.os.trans h.os, k.tape.trans h.tape, k.output.trans h.output, Nat.le_trans h.size k.size, fun i hi _ => (k.block i hi).trans (h.block i hi (by simp))⟩
theorem VM.seen {W W4 : World} {G : Nat → Prop} {b : Nat} {fs : List F} {ty : TypeId} {ver : Int} {t : T} (h : VM W G b fs ty ver t) (hG : ∀ k, G k → k < W.heap.size) (k : Keep [] W W4) :
    ∃ c, Pt W4 b 1 c ∧ W4.cell? ⟨b, 0, none⟩ = some (.int .i16 ver) ∧ VK W4 G 10 (-1) (VFs W4 G fs) c t := by
  obtain ⟨cs, v, l, u, h1, h2, h3, rfl⟩ := h
  have hb : W4.heap[b]? = _ := (k.block b (World.heap_lt h1) List.not_mem_nil).trans h1
  have hs : SameOn G W W4 := fun i hi => k.block i (hG i hi) List.not_mem_nil
  exact ⟨cs ++ [v], ⟨[.int .i16 ver], [], ty, by simpa using hb, rfl⟩, cellOf hb 0 _ (by simp), cs, v, l, u, rfl, VFs.keepF hs (fun _ h => h) fs h2, h3.keepF hs (fun _ h => h), rfl⟩
theorem smalls_map {N : Nat} {g : T → T} (h : ∀ x, small N (g x)) : ∀ l : List T, smalls N (l.map g)
  | [] => trivial
  | x :: r => ⟨h x, smalls_map h r⟩
theorem tdU_small (fs : List F) (u : List Tg) : ∀ x ∈ tdU fs u, x.2.length ≤ 32767 := by
  intro x hx
  unfold tdU at hx
  obtain ⟨y, hy, rfl⟩ := List.mem_map.1 hx
  simp [whole]; omega
theorem tdK_small {N : Nat} (hN : 32767 ≤ N) {kind : Int} {pt : T → T} (hp : ∀ t, small N (pt t)) (null : Bool) (t : T) : small N (tdK kind pt null t) := by
  have hw : (whole t.s).length ≤ 32767 := by simp [whole]; omega
  have h8 : small N (if null then nstrT none else .mk 0 (whole t.s) false [] []) := by
    cases null
    · exact small_plain (by omega)
    · exact small_nstr (o := none) (fun x h => by cases h)
  have h9 : small N (octT (if null then none else some (whole t.s))) := by
    cases null
    · exact small_octO (o := some _) (fun x h => by cases h; omega)
    · exact small_octO (o := none) (fun x h => by cases h)
  have hpl : ∀ n : Int, small N (.mk n [] false [] []) := fun n => small_plain (by simp)
  unfold tdK
  exact ite_p (small N) (hpl _) (ite_p (small N) (hpl _) (ite_p (small N) (hpl _) (ite_p (small N) (hpl _) (ite_p (small N) (hpl _) (ite_p (small N) (hpl _) (ite_p (small N) (hpl _) (ite_p (small N) (small_plain (by rw [pad16_length]; omega)) (ite_p (small N) h8 (ite_p (small N) h9 (ite_p (small N) (hp t) (hpl _)))))))))))
mutual
theorem tdF_small {N : Nat} (hN : 32767 ≤ N) : ∀ (f : F) (v : Int) (flex : Bool) (t : T), narrow N f → small N (tdF f v flex t)
  | .mk k a b nul tag dfl ofk sub, v, flex, t, hn => by
    have hp : ∀ t : T, small N (.mk 0 [] false (tdFs sub 0 v flex t) (if flex then tdU sub t.u else [])) := fun t => by
      refine ⟨by simp, by rw [tdFs_len]; exact hn.1, ?_, ?_, tdFs_small hN sub 0 v flex t hn.2⟩
      · cases flex
        · simp
        · have := tdU_len sub t.u; simp only [if_true]; omega
      · cases flex
        · simp
        · intro x hx
          have := tdU_small sub t.u x hx
          omega
    unfold tdF
    split
    · refine ⟨by simp, ?_, by simp, (fun x hx => by cases hx), smalls_map (tdK_small hN hp false) _⟩
      rw [List.length_map]
      split
      · simp
      · have := things_len t.l; omega
    · exact tdK_small hN hp _ t
theorem tdFs_small {N : Nat} (hN : 32767 ≤ N) : ∀ (fs : List F) (i : Nat) (v : Int) (flex : Bool) (t : T), narrows N fs → smalls N (tdFs fs i v flex t)
  | [], _, _, _, _, _ => trivial
  | f :: r, i, v, flex, t, hn => by
    refine ⟨?_, tdFs_small hN r (i + 1) v flex t hn.2⟩
    split
    · exact tdF_small hN f v flex _ hn.1
    · exact dflF_small (by omega) f hn.1
end
theorem tdPart_small {N : Nat} (hN : 32767 ≤ N) {fs : List F} (hn : narrows N fs) (hl : fs.length ≤ N) (v : Int) (flex : Bool) (t : T) : small N (tdPart fs v flex t) := by
  refine ⟨by simp, by rw [tdFs_len]; exact hl, ?_, ?_, tdFs_small hN fs 0 v flex t hn⟩
  · cases flex
    · simp
    · have := tdU_len fs t.u; simp only [if_true]; omega
  · cases flex
    · simp
    · intro x hx
      have := tdU_small fs t.u x hx
      omega
/-- fields that are neither lists nor structs -/
def flatFs : List F → Bool
  | [] => true
  | f :: r => kindOk f.kind && flatFs r
theorem countedP_short (flex null : Bool) {n size : Nat} (hn : n ≤ 32767) (hs : size ≤ 4) : (countedP flex null n size).length ≤ 10 := by
  unfold countedP
  have := uvarP_short (n := n + 1) (by omega)
  split
  · simp
  · split
    · exact this
    · split <;> rw [fixedP_len] <;> omega
theorem valueP_short {kind : Int} (hk : kindOk kind = true) (part : T → Bs) (null flex : Bool) (t : T) : (valueP kind part null flex t).length ≤ 40000 := by
  have hw : (if null = true then [] else whole t.s).length ≤ 32767 := by
    split
    · simp
    · simp [whole]; omega
  have h2 := countedP_short flex null hw (size := 2) (by omega)
  have h4 := countedP_short flex null hw (size := 4) (by omega)
  have hwd : widthP kind ≤ 8 := by unfold widthP; repeat' split
                                   all_goals omega
  simp only [kindOk, Bool.and_eq_true, decide_eq_true_eq] at hk
  unfold valueP
  split
  · simp
  · split
    · simp; omega
    · split
      · rw [List.length_append]; omega
      · split
        · rw [List.length_append]; omega
        · rw [if_neg (by omega), fixedP_len]
          omega
theorem fieldP_short {f : F} (hk : kindOk f.kind = true) (v : Int) (flex : Bool) (t : T) : (fieldP f v flex t).length ≤ 40000 := by
  have hk' := hk
  simp only [kindOk, Bool.and_eq_true, decide_eq_true_eq] at hk'
  rw [fieldP_eq]
  unfold fieldOf
  rw [if_neg (by omega), if_neg (by omega)]
  exact valueP_short hk _ _ _ _
theorem plainAt_short : ∀ (fs : List F) (i : Nat) (v : Int) (flex : Bool) (t : T), flatFs fs = true → (plainAt fs i v flex t).length ≤ 40000 * fs.length
  | [], _, _, _, _, _ => by simp [plainAt]
  | f :: r, i, v, flex, t, h => by
    simp only [flatFs, Bool.and_eq_true] at h
    have ih := plainAt_short r (i + 1) v flex t h.2
    have h1 := fieldP_short h.1 v flex (atT t i)
    simp only [plainAt, List.length_append, List.length_cons]
    split
    · omega
    · simp only [List.length_nil]; omega
theorem tags_short : ∀ (us : List Tg), (∀ x ∈ us, x.1 < 4294967296 ∧ x.2.length ≤ 32767) → ((us.map tagP).flatten).length ≤ 33000 * us.length
  | [], _ => by simp
  | x :: r, h => by
    have ih := tags_short r (fun y hy => h y (List.mem_cons_of_mem _ hy))
    have hx := h x (List.mem_cons_self ..)
    have h1 := uvarP_short (n := x.1) (by omega)
    have h2 := uvarP_short (n := x.2.length) (by omega)
    simp only [List.map_cons, List.flatten_cons, List.length_append, List.length_cons, tagP]
    omega
/-- a message without lists and structs is short, whatever the tree -/
theorem partP_flat {fs : List F} (hu : untagged fs = true) (hf : flatFs fs = true) (hl : fs.length ≤ 1000) (v : Int) (flex : Bool) {t : T} (ht : keysT t) : (partP fs v flex t).length ≤ 35990000000000 := by
  have h1 := plainAt_short fs 0 v flex t hf
  have h2 := tdU_len fs t.u
  have h3 := tags_short (tdU fs t.u) (tdU_mem ht.u)
  have h4 := uvarP_short (n := (tdU fs t.u).length) (by omega)
  rw [partP_untagged hu]
  split
  · simp only [List.length_append]; omega
  · omega
/-- the cost of a field: no tree makes it longer -/
def costF (f : F) : Nat := if f.kind = 11 then 10 + 32767 * (if f.ofk = 10 then 40000 * f.sub.length + 1082000000 else 40000) else 40000
def costFs : List F → Nat
  | [] => 0
  | f :: r => costF f + costFs r
/-- fields that are no structs; lists of what is no list and no struct, or of flat structs -/
def listFs : List F → Bool
  | [] => true
  | f :: r => (kindOk f.kind || (decide (f.kind = 11) && (kindOk f.ofk || (decide (f.ofk = 10) && flatFs f.sub && untagged f.sub)))) && listFs r
theorem flatMap_le {α : Type} {M : Nat} {g : α → Bs} : ∀ (l : List α), (∀ x ∈ l, (g x).length ≤ M) → (l.flatMap g).length ≤ M * l.length
  | [], _ => by simp
  | x :: r, h => by
    have ih := flatMap_le r fun y hy => h y (List.mem_cons_of_mem _ hy)
    have hx := h x (List.mem_cons_self ..)
    simp only [List.flatMap_cons, List.length_append, List.length_cons, Nat.mul_add]
    omega
theorem tags_all (fs : List F) {t : T} (ht : keysT t) : (uvarP (tdU fs t.u).length ++ ((tdU fs t.u).map tagP).flatten).length ≤ 1082000000 := by
  have h2 := tdU_len fs t.u
  have h3 := tags_short (tdU fs t.u) (tdU_mem ht.u)
  have h4 := uvarP_short (n := (tdU fs t.u).length) (by omega)
  rw [List.length_append]
  omega
theorem partP_row {fs : List F} (hu : untagged fs = true) (hf : flatFs fs = true) (v : Int) (flex : Bool) {t : T} (ht : keysT t) : (partP fs v flex t).length ≤ 40000 * fs.length + 1082000000 := by
  have h1 := plainAt_short fs 0 v flex t hf
  have h2 := tags_all fs ht
  rw [partP_untagged hu]
  split
  · rw [List.length_append]; omega
  · omega
theorem fieldP_cost {f : F} (hk : (kindOk f.kind || (decide (f.kind = 11) && (kindOk f.ofk || (decide (f.ofk = 10) && flatFs f.sub && untagged f.sub)))) = true) (v : Int) (flex : Bool) {t : T} (ht : keysT t) : (fieldP f v flex t).length ≤ costF f := by
  by_cases h11 : f.kind = 11
  · have hk' : kindOk f.kind = false := by rw [h11]; decide
    rw [hk'] at hk
    simp only [h11, decide_true, Bool.true_and, Bool.false_or, Bool.or_eq_true, Bool.and_eq_true, decide_eq_true_eq] at hk
    rw [fieldP_eq]
    unfold fieldOf costF
    rw [if_pos h11, if_pos h11]
    have hl : (if f.isNull v t = true then [] else things t.l).length ≤ 32767 := by
      split
      · simp
      · exact things_len t.l
    have hc := countedP_short flex (f.isNull v t) hl (size := 4) (by omega)
    have hm : ∀ x ∈ (if f.isNull v t = true then [] else things t.l), keysT x := by
      intro x hx
      split at hx
      · cases hx
      · exact ht.l x (List.mem_of_mem_take hx)
    have hfm := flatMap_le (M := if f.ofk = 10 then 40000 * f.sub.length + 1082000000 else 40000) (g := fun x => valueP f.ofk (partP f.sub v flex) false flex x) (if f.isNull v t = true then [] else things t.l) fun x hx => by
      by_cases h10 : f.ofk = 10
      · rcases hk with hk | hk
        · rw [h10] at hk; cases hk
        · have := partP_row hk.2 hk.1.2 v flex (hm x hx)
          rw [if_pos h10]
          simpa [valueP, h10] using this
      · rcases hk with hk | hk
        · rw [if_neg h10]; exact valueP_short hk _ _ _ _
        · exact absurd hk.1.1 h10
    simp only [List.length_append]
    have hmul := Nat.mul_le_mul_left (if f.ofk = 10 then 40000 * f.sub.length + 1082000000 else 40000) hl
    have hcom := Nat.mul_comm 32767 (if f.ofk = 10 then 40000 * f.sub.length + 1082000000 else 40000)
    rw [hcom]
    exact Nat.add_le_add hc (Nat.le_trans hfm hmul)
  · have hk' : kindOk f.kind = true := by simpa [h11] using hk
    have := fieldP_short hk' v flex t
    unfold costF
    rw [if_neg h11]
    exact this
theorem plainAt_cost : ∀ (fs : List F) (i : Nat) (v : Int) (flex : Bool) {t : T}, keysT t → listFs fs = true → (plainAt fs i v flex t).length ≤ costFs fs
  | [], _, _, _, _, _, _ => by simp [plainAt]
  | f :: r, i, v, flex, t, ht, h => by
    simp only [listFs, Bool.and_eq_true] at h
    have ih := plainAt_cost r (i + 1) v flex ht h.2
    have h1 := fieldP_cost h.1 v flex (ht.at_ i)
    simp only [plainAt, List.length_append, costFs]
    split
    · omega
    · simp only [List.length_nil]; omega
/-- a message with a list of flat structs is short enough, whatever the tree -/
theorem partP_listed {fs : List F} (hu : untagged fs = true) (hf : listFs fs = true) (hl : costFs fs ≤ 35900000000000) (v : Int) (flex : Bool) {t : T} (ht : keysT t) : (partP fs v flex t).length ≤ 35990000000000 := by
  have h1 := plainAt_cost fs 0 v flex ht hf
  have h2 := tags_all fs ht
  rw [partP_untagged hu]
  split
  · rw [List.length_append]; omega
  · omega
section
variable {ops : Array Oper} {Q : Exit → Act → World → Prop} {a : Act} {w : World} {rest : List Oper} {o : Oper}
/-- an append of octets that hangs on a guard -/
theorem app_obg (hw : Region.wanted o (yielded ops a.tmps) = true) (s x : Operand) (ho : o.op = .call { callee := .builtin .append, args := #[s, x], argTypes := #[22, 22] })
    (B : Nat) (v : Value) (acc : Bs) (hs : a.eval s = v) (hown : OB w B v acc) (xv : Value) (l : Bs) (G : Nat → Prop) (hx : a.eval x = xv) (hl : RB w G xv l)
    (hlen : acc.length + l.length ≤ 70368744177664) (hB : B ≤ w.heap.size)
    (h : ∀ v' w', OB w' B v' (acc ++ l) → w.grownBy w' v.ownBlock → wpList Try.prog ops Q rest (a.put o.dst v') w') : wpList Try.prog ops Q (o :: rest) a w :=
  wpList_step fun K hK => by
    rw [if_pos hw]
    exact app_wp s x ho B v acc hs hown xv l G hx hl hlen hB fun v' w' h1 h2 => hK _ _ (h v' w' h1 h2)
end
end Go.Proofs.Ytidebamgmbdnaaa
