/-
  Tags.Each: the call that it is given is called for each tag, by rising numbers.
-/
import Derived.Test.YtobbchmjgoaleaaGreatDoorMEtr14
import Derived.Test.YtobbchmjgoaleaaGreatDoorMEtr8
import Derived.Test.YtobbchmjgoaleaaGreatDoorMEtr12
import Derived.Maps.OwnSet
import Derived.OwnWalk
import Derived.WalkSpells
import Derived.Shelf.Abstract
namespace Go.Proofs.YtobbchmjgoaleaaGreatDoor
open Go.ChangeShapes Go.WideShapes Go.ChangeAt Go.RowKit

/-- outside J everything is as it was -/
structure Chg (J : Nat → Prop) (w w' : World) : Prop where
  os : w'.os = w.os
  tape : w'.tape = w.tape
  output : w'.output = w.output
  size : w.heap.size ≤ w'.heap.size
  block : ∀ k, k < w.heap.size → ¬ J k → w'.heap[k]? = w.heap[k]?
theorem Chg.refl (J : Nat → Prop) (w : World) : Chg J w w := ⟨rfl, rfl, rfl, Nat.le_refl _, fun _ _ _ => rfl⟩
theorem Keep.chg {w w' : World} (h : Keep [] w w') (J : Nat → Prop) : Chg J w w' := ⟨h.os, h.tape, h.output, h.size, fun k hk _ => h.block k hk (by simp)⟩
theorem Chg.trans {J J1 J2 : Nat → Prop} {w w1 w2 : World} (h : Chg J1 w w1) (k : Chg J2 w1 w2) (h1 : ∀ j, J1 j → J j ∨ w.heap.size ≤ j) (h2 : ∀ j, J2 j → J j ∨ w.heap.size ≤ j) : Chg J w w2 :=
  ⟨k.os.trans h.os, k.tape.trans h.tape, k.output.trans h.output, Nat.le_trans h.size k.size, fun j hj hn =>
    (k.block j (Nat.lt_of_lt_of_le hj h.size) (fun e => by
      rcases h2 j e with e | e
      · exact hn e
      · omega)).trans (h.block j hj (fun e => by
      rcases h1 j e with e | e
      · exact hn e
      · omega))⟩

theorem grown_set (w : World) (p : Addr) (u : Value) : w.grownBy (w.setCell p u) (some p.block) := ⟨rfl, rfl, rfl, by simp [World.setCell], fun k hk hne => Below.heap_setCell _ _ _ _ (fun e => hne (by rw [e]))⟩
/-- what was met so far -/
def Coll (tv : List (Nat × Value)) (left : Lit → Bool) (ss : List Int) : Prop :=
  ss.Nodup ∧ (∀ x : Int, left (.int .u32 x) = true → Maps.has (tD tv) (.int .u32 x) = true) ∧ ∀ x : Int, x ∈ ss ↔ (Maps.has (tD tv) (.int .u32 x) = true ∧ left (.int .u32 x) = false)
theorem Coll.start (tv : List (Nat × Value)) : Coll tv (Maps.has (tD tv)) [] :=
  ⟨List.nodup_nil, fun _ h => h, fun x => by cases Maps.has (tD tv) (.int .u32 x) <;> simp⟩
theorem Coll.step {tv : List (Nat × Value)} {left : Lit → Bool} {ss : List Int} (h : Coll tv left ss) {x : Int} (hl : left (.int .u32 x) = true) : Coll tv (fun z => left z && !z.sameKey (.int .u32 x)) (ss ++ [x]) := by
  obtain ⟨h1, h2, h3⟩ := h
  refine ⟨?_, fun y hy => h2 y (by simp at hy; exact hy.1), fun y => ?_⟩
  · refine List.nodup_append.2 ⟨h1, by simp, fun a ha b hb => ?_⟩
    simp at hb
    subst hb
    rintro rfl
    have := ((h3 a).1 ha).2
    rw [hl] at this
    cases this
  · simp only [List.mem_append, List.mem_singleton, h3]
    by_cases e : y = x
    · subst e
      simp [Lit.sameKey, h2 y hl]
    · have : (Lit.int .u32 y).sameKey (.int .u32 x) = false := by simp [Lit.sameKey, e]
      simp [this, e]
theorem Coll.perm {tv : List (Nat × Value)} {left : Lit → Bool} {ss : List Int} (h : Coll tv left ss) (hr : Rising tv) (hl : ∀ kl, left kl = false) : ss.Perm (tv.map fun x => (x.1 : Int)) := by
  obtain ⟨h1, _, h3⟩ := h
  refine (List.perm_ext_iff_of_nodup h1 ?_).2 fun x => ?_
  · refine List.pairwise_map.2 (hr.imp fun {a b} hab => ?_)
    omega
  · rw [h3]
    simp only [hl, and_true, List.mem_map]
    constructor
    · intro hx
      obtain ⟨y, hy, e⟩ := tD_has hx
      exact ⟨y, hy, e⟩
    · rintro ⟨y, hy, rfl⟩
      exact tD_has_mem hy
theorem keys_lt {tv : List (Nat × Value)} (hr : Rising tv) : (tv.map fun x => (x.1 : Int)).Pairwise (· < ·) := List.pairwise_map.2 (hr.imp fun {a b} hab => by omega)

theorem info_n32 : (Tryz.prog.info? 75).map (fun i => (i.zero, i.size, i.bytes)) = some (some (.int .u32 0), 1, 4) := by kernel_rfl
theorem zero_sl : ∀ w, (zeroValue 22).run Tryz.prog w = .ok (.slice none 0 0) w := Tryz.zeroValue22
theorem tlook {tv : List (Nat × Value)} {n r : Nat} {w : World} (hown : w.ownsMap Tryz.prog 75 tR r n (tD tv)) (hr : Rising tv) (hlt : ∀ x ∈ tv, x.1 < 4294967296) {x : Nat × Value} (hx : x ∈ tv) :
    (Instr.lookup 80 (.map (some r)) (.int .u32 (x.1 : Int)) false).run Tryz.prog w = .ok x.2 w := by
  obtain ⟨v, ps, h1, h2⟩ := hown.lookup (Maps.int_keyed Tryz.underlying75) Tryz.underlying80 (zero_sl w) (zd := .held (.slice none 0 0)) (zp := []) rfl (Maps.keyOf_int_mk Tryz.underlying75 (wf_u32 (hlt x hx)))
  rw [tD_at hr hx] at h2
  simp only [tR, Option.some.injEq, Prod.mk.injEq, DataW.held.injEq] at h2
  rw [h1, h2.1]

set_option maxHeartbeats 1000000 in
set_option maxRecDepth 100000 in
theorem each_any {b i n fn : Nat} {v p : Value} {tv : List (Nat × Value)} {w : World} {c : Array Value} {t : TypeId} (hb : w.heap[b]? = some (.cells c t (0, 0))) (hc : c[i]? = some v) (hm : MO w v n tv) (hn : n ≤ 17179869184)
    (eg : ∀ args w, (callFunc fn args).run Tryz.prog w = .ok (.enter fn args) w)
    (I : Nat → (Nat → Prop) → World → Prop) (J0 : Nat → Prop) (hI : I 0 J0 w) (hJb : ¬ J0 b) (hJm : ∀ k ∈ mblk v, ¬ J0 k) (hJlt : ∀ k, J0 k → k < w.heap.size)
    (hkeep : ∀ d J W W', I d J W → Keep [] W W' → I d J W')
    (hstep : ∀ j (hj : j < tv.length) J W, I j J W → w.heap.size ≤ W.heap.size → Calls Tryz.prog fn #[.int .u32 (tv[j].1 : Int), tv[j].2, p] W fun e W' => e = .returned (.tuple #[]) ∧ ∃ J', I (j + 1) J' W' ∧ (∀ j, J' j → J j ∨ W.heap.size ≤ j) ∧ Chg J W W') :
    Calls Tryz.prog 192 #[.pointer (some ⟨b, i, none⟩), .func (.func fn) #[] #[p]] w fun e w' => e = .returned (.tuple #[]) ∧ ∃ J', I tv.length J' w' ∧ (∀ j, J' j → J0 j ∨ w.heap.size ≤ j) ∧ Chg J0 w w' := by
  have hbl : b < w.heap.size := (Array.getElem?_eq_some_iff.1 hb).1
  obtain ⟨hr, hlt, hcase⟩ := hm
  by_cases h0 : tv = []
  · subst h0
    have cb : w.cell? ⟨b, i, none⟩ = some v := cellOf hb i _ hc
    rcases hcase with ⟨rfl, _⟩ | ⟨r, rfl, hown⟩
    · have hlen := Maps.len_nil (w := w) Tryz.underlying80 3
      go_enter Tryz.func192, Tryz.ntmps192
      go_wp2_with fail
      refine bodyPost_ret (v := .tuple #[]) (by simp [results, Tryz.results192, go_sem]) rfl ⟨rfl, J0, hI, fun _ h => .inl h, Chg.refl _ _⟩
    · have hlen := hown.len Tryz.underlying80 3
      rw [tD_size] at hlen
      go_enter Tryz.func192, Tryz.ntmps192
      go_wp2_with fail
      refine bodyPost_ret (v := .tuple #[]) (by simp [results, Tryz.results192, go_sem]) rfl ⟨rfl, J0, hI, fun _ h => .inl h, Chg.refl _ _⟩
  rcases hcase with ⟨_, h⟩ | ⟨r, rfl, hown⟩
  · exact absurd h h0
  obtain ⟨i0, hi, hy0, hy1, hy2⟩ := info_parts info_n32
  have hpos : 0 < tv.length := List.length_pos_iff.2 h0
  have hsz : tv.length ≤ n := by
    obtain ⟨es, clock, _, _, h, e⟩ := hown
    have h2 := congrArg Maps.size e
    rw [tD_size] at h2
    simp [Maps.size, length_sorted] at h2
    omega
  have cb : w.cell? ⟨b, i, none⟩ = some (.map (some r)) := cellOf hb i _ hc
  have hlen := hown.len Tryz.underlying80 3
  rw [tD_size] at hlen
  have hrl := hown.lt
  go_enter Tryz.func192, Tryz.ntmps192
  go_wp2_with (first
    | (at_make; go_loud (refine wpList_make_own _ rfl _ _ 200 rfl w.heap.size 75 i0 (.int .u32 0) 1 Tryz.underlying200 hi hy0 hy1 _ _ _ tv.length rfl rfl rfl (by rw [hy2]; omega) (by unfold maxLen; omega) (Nat.le_refl _) ?_; intro w1 hrow1 hg1; have kg1 : Keep [] w w1 := (Keep.refl _ _).grown hg1 (by simp); have cb1 : (w1.alloc (.cells #[.slice (some ⟨w.heap.size, 0, none⟩) 0 tv.length] 200)).cell? ⟨b, i, none⟩ = some (.map (some r)) := ((kg1.alloc _).cell (p := ⟨b, i, none⟩) hbl (by simp)).trans cb))
    | (at_range; go_loud (refine wpList_range_own _ rfl _ 80 rfl 75 22 (Maps.int_keyed Tryz.underlying75) Tryz.underlying80 _ r n _ rfl ((hown.kept hg1 (by simp)).alloc _) ?_; intro w0 hrg0 hg0 hs0)))
  go_frame
  have k0 : Keep [] w w0 := (kg1.alloc _).grown hg0 (by simp)
  have hz1 : w.heap.size + 1 ≤ w1.heap.size := by
    rcases hrow1.2 with ⟨h, _⟩ | ⟨g, cap, cur, e, _, hb', _⟩
    · cases h
    · cases e
      have := (Array.getElem?_eq_some_iff.1 hb').1
      omega
  have hz0' : w0.heap.size = w1.heap.size + 2 := by simpa using hs0
  have hri1 : w1.heap.size < (w1.alloc (.cells #[.slice (some ⟨w.heap.size, 0, none⟩) 0 tv.length] 200)).heap.size := by simp
  have hri2 : (w1.alloc (.cells #[.slice (some ⟨w.heap.size, 0, none⟩) 0 tv.length] 200)).heap.size < w0.heap.size := by rw [hz0']; simp
  have hbox0 : w0.heap[w1.heap.size]? = some (.cells #[.slice (some ⟨w.heap.size, 0, none⟩) 0 tv.length] 200 (0, 0)) := (hg0.block _ (by simp) (by simp)).trans (heap_alloc_new w1 _)
  have hrow0 := (hrow1.alloc (.cells #[.slice (some ⟨w.heap.size, 0, none⟩) 0 tv.length] 200)).kept hg0 (Or.inr (by simp [Value.ownBlock]))
  rw [tD_size] at hrg0
  clear hs0 cb1 cb hlen hrow1
  generalize (w1.alloc (.cells #[.slice (some ⟨w.heap.size, 0, none⟩) 0 tv.length] 200)).heap.size = rI at *
  go_loopw [5] (fun _ wr => ∃ (left : Lit → Bool) (cnt : Nat) (ss : List Int), wr.ranges Tryz.prog 75 tR r rI n (tD tv) left cnt ∧ ss.length + cnt ≤ tv.length ∧
      wr.heap[w1.heap.size]? = some (.cells #[.slice (some ⟨w.heap.size, 0, none⟩) ss.length tv.length] 200 (0, 0)) ∧ wr.ownsRow w.heap.size 75 1 (.slice (some ⟨w.heap.size, 0, none⟩) ss.length tv.length) ss.length (ss.map (Value.int .u32)) ∧ Coll tv left ss ∧ Keep [] w wr ∧ w1.heap.size + 2 ≤ wr.heap.size)
    (fun _ wr => wr.rangeLeft r rI)
  case atStart => exact ⟨_, _, [], hrg0, by simp, hbox0, hrow0, Coll.start tv, k0, by omega⟩
  case round =>
    obtain ⟨left, cnt, ss, hrg, hcs, hbx, hrow, hC, hk, hzr⟩ := hrel
    have qb : wr.cell? ⟨w1.heap.size, 0, none⟩ = some (.slice (some ⟨w.heap.size, 0, none⟩) ss.length tv.length) := cellOf hbx 0 _ rfl
    have fb := freeOf hbx 0
    have HBX : Hid _ := hbx
    clear hbx hbox0
    go_wp2_with (first
      | (at_next; go_loud (refine wpList_next_ranges _ rfl _ rfl 75 (Maps.int_keyed Tryz.underlying75) tR (Value.int .u32) (fun v : Value => v) (fun key kl hkey => by obtain ⟨x, rfl, _⟩ := Maps.keyOf_int_inv Tryz.underlying75 hkey; exact ⟨x, rfl⟩) (fun v y _ => ⟨v, rfl⟩) r rI n _ _ _ rfl hrg ?_ ?_)))
    · intro hc0 hl0
      have hperm := hC.perm hr hl0
      have hK := keys_lt hr
      obtain ⟨cur, hcur, hcz, hct⟩ : ∃ cur, wr.heap[w.heap.size]? = some (.cells cur 75 (0, 0)) ∧ cur.size = tv.length ∧ cur.toList.take ss.length = ss.map (Value.int .u32) := by
        rcases hrow.2 with ⟨h, _⟩ | ⟨g, cap, cur, e, _, hb', _, _, h3, h4⟩
        · cases h
        · cases e
          exact ⟨cur, hb', by simpa using h3, by simpa using h4⟩
      have hsl : ss.length = tv.length := by have := hperm.length_eq; simpa using this
      have TS := tsort_any (tb := 200) hcur hct (by omega) HBX.out (by omega) (by omega) hK hperm
      rw [hsl] at TS qb hct
      clear hrow hcs
      have Q := fun w' (h : Keep [w.heap.size] wr w') => (h.cell (p := ⟨w1.heap.size, 0, none⟩) (World.block_lt_of_cell? wr _ qb) (by simp; omega)).trans qb
      have HQ : Hid _ := Q
      have HSL : Hid _ := hsl
      clear hcur Q hsl hct hperm hC
      go_wp2_with (go_at_call 221; go_loud (refine TS.mono ?_; rintro e ws ⟨rfl, cur', hcur', hct', hcz', ks⟩; have qs := HQ.out ws ks))
      have kS : Keep [] w ws := ((hk.weaken (B := [w.heap.size]) (by simp)).trans ks).fresh (by simp)
      have hgJ : ¬ J0 w.heap.size := fun h => by have := hJlt _ h; omega
      have hII := hkeep _ _ _ _ hI kS
      have HKEY : Hid _ := hct'
      have hce : ∀ j (hj : j < tv.length), cur'[j]? = some (.int .u32 (tv[j].1 : Int)) := fun j hj => by
        have e := congrArg (fun l => l[j]?) HKEY.out
        simp only [List.getElem?_take_of_lt hj, Array.getElem?_toList, List.map_map, List.getElem?_map, List.getElem?_eq_getElem hj, Option.map_some] at e
        exact e
      clear hct' qs qb fb hkeep TS
      go_loopw [39, 7] (fun k _ wq => ∃ (j : Nat) (J : Nat → Prop), k = .int .i64 (j : Int) ∧ j ≤ tv.length ∧ I j J wq ∧ (∀ x, J x → J0 x ∨ w.heap.size ≤ x) ∧ Chg J0 w wq ∧ ¬ J w.heap.size ∧ wq.heap[w.heap.size]? = some (.cells cur' 75 (0, 0))) (fun k _ _ => tv.length - (intOf k).toNat)
      case atStart => exact ⟨0, J0, rfl, Nat.zero_le _, hII, fun _ h => .inl h, kS.chg _, hgJ, hcur'⟩
      case round =>
        obtain ⟨j, J, rfl, hj, hIj, hJ, hch, hgj, hcq⟩ := hrel
        have hbq := (hch.block b hbl hJb).trans hb
        have cbq : _ := cellOf hbq i _ hc
        by_cases hlt2 : j < tv.length
        · have hmem : tv[j] ∈ tv := List.getElem_mem hlt2
          have hcj := cellOf hcq j _ (hce j hlt2)
          have hlook := tlook (w := _) (let ⟨es, clock, hb', h4⟩ := hown; ⟨es, clock, (hch.block r hrl (hJm r (by simp [mblk]))).trans hb', h4⟩) hr hlt hmem
          have HS := hstep j hlt2 J _ hIj hch.size
          have hzq := hch.size
          clear hmem hbq hcur'
          generalize hx : tv[j] = x at *
          obtain ⟨kx, vx⟩ := x
          clear hx
          simp only at hcj hlook HS
          have hgz := World.block_lt_of_cell? _ _ hcj
          have HCQ : Hid _ := hcq
          clear hcq
          go_wp2_with (go_at_fn fn; go_loud (refine HS.mono ?_; rintro e wz ⟨rfl, J', hI', hJ', hcz⟩))
          refine ⟨⟨j + 1, J', by go_num, by omega, hI', fun y h => (hJ' y h).elim (hJ y) (fun h => .inr (by omega)), hch.trans hcz (fun _ h => .inl h) hJ, fun h => (hJ' _ h).elim hgj (fun h => by omega), (hcz.block _ hgz hgj).trans HCQ.out⟩, by simp [intOf]; omega⟩
        · obtain rfl : j = tv.length := by omega
          clear hcq hbq cbq
          go_wp2_with fail
          refine bodyPost_end (v := .tuple #[]) (by simp [results, Tryz.results192, go_sem]) rfl ⟨rfl, J, hIj, hJ, hch⟩
    · intro x c' kl yd yp w2 cnt2 hkey hlk hv hat hrg2 hlt2 hg2 hs2 hen
      obtain ⟨x', ex, rfl, hwx⟩ := Maps.keyOf_int_inv Tryz.underlying75 hkey
      cases ex
      have hz2' : wr.heap.size ≤ w2.heap.size := hg2.size
      have hrow2 := hrow.kept hg2 (Or.inr (by simp [Value.ownBlock]; omega))
      have bx2 := (hg2.block w1.heap.size (by omega) (by simp; omega)).trans HBX.out
      have q2 : w2.cell? ⟨w1.heap.size, 0, none⟩ = some (.slice (some ⟨w.heap.size, 0, none⟩) ss.length tv.length) := cellOf bx2 0 _ rfl
      have HB2 : Hid _ := bx2
      have hbl2 : w1.heap.size < w2.heap.size := World.block_lt_of_cell? w2 _ q2
      clear hs2 bx2 qb fb
      go_wp2_with (at_builtin; go_loud (refine wpList_append_fits _ rfl _ _ 200 rfl w.heap.size 75 i0 1 Tryz.underlying200 hi hy1 w.heap.size ss.length tv.length _ rfl (hrow2.alloc _) ⟨w2.heap.size, 0, none⟩ 1 1 [.int .u32 x] rfl rfl (cell_one_new _ _ _) (by simp [Value.oneCell']) (by omega) ?_; intro w3 hown3 hg3; have bx3 := (hg3.block w1.heap.size (by simp; omega) (by simp; omega)).trans (((keep_box (A := []) (.cells #[.int .u32 x] 75)).block w1.heap.size hbl2 (by simp)).trans HB2.out); have q3 := cellOf bx3 0 _ rfl; have f3 := freeOf bx3 0; have HB3 : Hid _ := bx3; clear bx3 q2))
      have g4 := grown_set w3 ⟨w1.heap.size, 0, none⟩ (.slice (some ⟨w.heap.size, 0, none⟩) (ss.length + 1) tv.length)
      have hrg4 := (((hrg2.alloc (.cells #[.int .u32 x] 75)).kept hg3 (by simp; omega) (by simp; omega)).kept g4 (by simp; omega) (by simp; omega))
      have hz3 := hg3.size
      have hz4 := g4.size
      have k4 : Keep [] w (w3.setCell ⟨w1.heap.size, 0, none⟩ (.slice (some ⟨w.heap.size, 0, none⟩) (ss.length + 1) tv.length)) := (((hk.grown hg2 (by simp; omega)).alloc (.cells #[.int .u32 x] 75)).grown hg3 (by simp)).grown g4 (by simp; omega)
      have hb4 := heap_set (i := 0) HB3.out (.slice (some ⟨w.heap.size, 0, none⟩) (ss.length + 1) tv.length)
      simp at hz3
      refine ⟨⟨_, cnt2, ss ++ [x], hrg4, by simp; omega, by simpa using hb4, ?_, hC.step hlk, k4, by omega⟩, ?_⟩
      · have h := hown3.kept g4 (Or.inr (by simp [Value.ownBlock]; omega))
        simpa using h
      · rw [hrg4.left_eq, hrg.left_eq]; exact hlt2
end Go.Proofs.YtobbchmjgoaleaaGreatDoor
/-
  THE ROUND TRIP, in plain Lean: what the reference writes of a tree is read back, and what was read is written again.
-/
namespace Go.Proofs.YtobbchmjgoaleaaGreatDoor

theorem emod_mul' (n a b : Int) (ha : 0 ≤ a) : n % (a * b) = n % a + a * (n / a % b) := by
  rw [Int.emod_def, Int.emod_def n a, Int.emod_def (n / a) b, Int.ediv_ediv_of_nonneg ha, Int.mul_sub, Int.mul_assoc]
  omega
theorem pow2_nn (k : Nat) : (0 : Int) ≤ 2 ^ k := Int.le_of_lt (Int.pow_pos (by decide))
theorem oct_nat (n : Int) (k : Nat) : (oct n k).toNat = (n / 2 ^ (8 * k) % 256).toNat := by
  unfold oct
  have h1 : 0 ≤ (n / 2 ^ (8 * k)) % 256 := Int.emod_nonneg _ (by decide)
  have h2 : (n / 2 ^ (8 * k)) % 256 < 256 := Int.emod_lt_of_pos _ (by decide)
  simp only [UInt8.toNat_ofNat']
  omega
theorem be_app : ∀ (l : Bs) (n : Nat), l.foldl (fun n b => 256 * n + b.toNat) n = 256 ^ l.length * n + be l
  | [], n => by simp [be]
  | b :: r, n => by
    have h1 := be_app r (256 * n + b.toNat)
    have h2 := be_app r (256 * 0 + b.toNat)
    simp only [be, List.foldl_cons, List.length_cons] at *
    rw [h1, h2, Nat.pow_succ]
    rw [Nat.mul_add, Nat.mul_add, Nat.mul_assoc]
    omega
theorem be_fixed (n : Int) : ∀ k, ((be (fixedP n k) : Nat) : Int) = n % 2 ^ (8 * k)
  | 0 => by simp [be, fixedP, Int.emod_one]
  | k + 1 => by
    have ih := be_fixed n k
    have h := be_app (fixedP n k) (256 * 0 + (oct n k).toNat)
    simp only [be, fixedP, List.foldl_cons] at *
    rw [h, fixedP_len, oct_nat]
    have h1 : 0 ≤ (n / 2 ^ (8 * k)) % 256 := Int.emod_nonneg _ (by decide)
    have e : (256 : Int) ^ k = 2 ^ (8 * k) := by rw [Int.pow_mul]; rfl
    rw [Int.natCast_add, Int.natCast_mul, ih, show 256 * 0 + (n / 2 ^ (8 * k) % 256).toNat = (n / 2 ^ (8 * k) % 256).toNat by omega, Int.toNat_of_nonneg h1, show ((256 ^ k : Nat) : Int) = (256 : Int) ^ k by simp, e, Nat.mul_add, Int.pow_add]
    have e3 : n % (2 ^ (8 * k) * 2 ^ (8 * 1)) = n % 2 ^ (8 * k) + 2 ^ (8 * k) * (n / 2 ^ (8 * k) % 256) := by
      rw [emod_mul' _ _ _ (pow2_nn _)]; rfl
    rw [e3]; omega
theorem rdN_fixed (n : Int) (k : Nat) (r : Bs) : rdN k (fixedP n k ++ r, false) = ((n % 2 ^ (8 * k)).toNat, (r, false)) := by
  have h := be_fixed n k
  have hl := fixedP_len n k
  simp only [rdN, List.length_append, hl, if_neg (show ¬ k + r.length < k by omega)]
  rw [List.take_left' hl, List.drop_left' hl]
  congr 1
  omega
/-- a number as so many octets have it, with a sign -/
def wrapN (k : Nat) (n : Int) : Int := sgn k (n % 2 ^ (8 * k)).toNat
theorem rdI_fixed (n : Int) (k : Nat) (r : Bs) : rdI k (fixedP n k ++ r, false) = (wrapN k n, (r, false)) := by
  simp only [rdI, rdN_fixed, wrapN]
theorem fixed_wrap1 (n : Int) (k : Nat) : ∀ j, j ≤ k → fixedP (n % 2 ^ (8 * k)) j = fixedP n j
  | 0, _ => rfl
  | j + 1, h => by
    have ih := fixed_wrap1 n k j (by omega)
    simp only [fixedP, ih]
    congr 1
    have e : (n % 2 ^ (8 * k)) / 2 ^ (8 * j) % 256 = n / 2 ^ (8 * j) % 256 := by
      have e1 : (2 : Int) ^ (8 * k) = 2 ^ (8 * j) * (256 * 2 ^ (8 * (k - j - 1))) := by
        rw [show 8 * k = 8 * j + (8 + 8 * (k - j - 1)) by omega, Int.pow_add, Int.pow_add]; rfl
      have e2 : (0 : Int) < 2 ^ (8 * j) := Int.pow_pos (by decide)
      generalize (2 : Int) ^ (8 * (k - j - 1)) = c at *
      generalize (2 : Int) ^ (8 * j) = d at *
      rw [e1, emod_mul' _ _ _ (by omega), Int.add_mul_ediv_left _ _ (by omega), Int.emod_def n d]
      rw [show (n - d * (n / d)) / d = 0 from ?_]
      · rw [Int.zero_add, emod_mul' _ _ _ (by decide), Int.add_mul_emod_self_left, Int.emod_emod_of_dvd _ (by decide)]
      · rw [← Int.emod_def]
        exact Int.ediv_eq_zero_of_lt (Int.emod_nonneg _ (by omega)) (Int.emod_lt_of_pos _ e2)
    unfold oct
    rw [e]
/-- in at most so many groups -/
theorem uvAt_var : ∀ (j k acc n : Nat) (r : Bs), k + j = 4 → n < 2 ^ (32 - 7 * k) → uvAt k acc (uvarP n ++ r) = (acc + n * 2 ^ (7 * k), (k : Int) + ((uvarP n).length : Nat)) ∧ 0 < (uvarP n).length
  | 0, k, acc, n, r, hk, hn => by
    obtain rfl : k = 4 := by omega
    have hn' : n < 16 := by simpa using hn
    rw [uvarP_small (by omega)]
    have e : (UInt8.ofNat n).toNat = n := by simp only [UInt8.toNat_ofNat']; omega
    simp only [List.cons_append, List.nil_append, uvAt, if_true, e]
    rw [if_pos (by omega)]
    simp
  | j + 1, k, acc, n, r, hk, hn => by
    by_cases h : 127 < n
    · rw [uvarP_big h]
      have e : (UInt8.ofNat (n % 128 + 128)).toNat = n % 128 + 128 := by simp only [UInt8.toNat_ofNat']; omega
      have ih := uvAt_var j (k + 1) (acc + n % 128 * 2 ^ (7 * k)) (n / 128) r (by omega) (by
        have : 2 ^ (32 - 7 * k) = 128 * 2 ^ (32 - 7 * (k + 1)) := by
          rw [show 32 - 7 * k = 7 + (32 - 7 * (k + 1)) by omega, Nat.pow_add]
        omega)
      simp only [List.cons_append, uvAt, e, List.length_cons]
      rw [if_neg (by omega), if_neg (by omega), show (n % 128 + 128) % 128 = n % 128 by omega, ih.1]
      refine ⟨?_, by omega⟩
      congr 1
      · have e2 : 2 ^ (7 * (k + 1)) = 128 * 2 ^ (7 * k) := by
          rw [show 7 * (k + 1) = 7 + 7 * k by omega, Nat.pow_add]
        rw [e2, ← Nat.mul_assoc, Nat.add_assoc, ← Nat.add_mul]
        congr 2
        omega
      · push_cast; omega
    · rw [uvarP_small h]
      have e : (UInt8.ofNat n).toNat = n := by simp only [UInt8.toNat_ofNat']; omega
      simp only [List.cons_append, List.nil_append, uvAt, e]
      rw [if_neg (by omega), if_pos (by omega)]
      simp
theorem rdUv_var {n : Nat} (h : n < 4294967296) (r : Bs) : rdUv (uvarP n ++ r, false) = (n, (r, false)) := by
  have h1 := uvAt_var 4 0 0 n r rfl (by simpa using h)
  have h2 := h1.2
  have h3 := h1.1
  simp only [Nat.zero_add, Nat.mul_zero, Nat.pow_zero, Nat.mul_one] at h3
  have e : uvP (uvarP n ++ r) = (n, ((uvarP n).length : Int)) := by unfold uvP; rw [h3]; simp
  simp only [rdUv, e]
  rw [if_neg (by omega)]
  simp
theorem rdSpan_app (x r : Bs) {n : Int} (hn : n = x.length) : rdSpan n (x ++ r, false) = (x, (r, false)) := by
  subst hn
  simp only [rdSpan, List.length_append]
  rw [if_neg (by omega)]
  simp
/-- what a tag is, written -/
def tagP (u : Tg) : Bs := uvarP u.1 ++ uvarP u.2.length ++ u.2
theorem insK_end {α : Type} (x : Nat × α) : ∀ l : List (Nat × α), (∀ y ∈ l, y.1 < x.1) → insK x l = l ++ [x]
  | [], _ => rfl
  | y :: r, h => by
    have h1 := h y (by simp)
    simp only [insK, if_neg (show ¬ x.1 < y.1 by omega), List.cons_append]
    rw [insK_end x r (fun z hz => h z (by simp [hz]))]
theorem putK_end {α : Type} (k : Nat) (x : α) (l : List (Nat × α)) (h : ∀ y ∈ l, y.1 < k) : putK l k x = l ++ [(k, x)] := by
  unfold putK
  rw [List.filter_eq_self.2 (fun y hy => by have := h y hy; simp; omega)]
  exact insK_end _ _ h
theorem rdTagsN_app : ∀ (us acc : List Tg) (r : Bs), Rising (acc ++ us) → (∀ u ∈ us, u.1 < 4294967296 ∧ u.2.length < 4294967296) → rdTagsN us.length ((us.map tagP).flatten ++ r, false) acc = (acc ++ us, (r, false))
  | [], acc, r, _, _ => by simp [rdTagsN]
  | u :: us, acc, r, h, hb => by
    obtain ⟨b1, b2⟩ := hb u (by simp)
    have hl : ∀ y ∈ acc, y.1 < u.1 := fun y hy => by
      unfold Rising at h
      exact (List.pairwise_append.1 h).2.2 y hy u (by simp)
    have e1 : ((u :: us).map tagP).flatten ++ r = uvarP u.1 ++ (uvarP u.2.length ++ (u.2 ++ ((us.map tagP).flatten ++ r))) := by
      simp [tagP]
    rw [e1]
    simp only [List.length_cons, rdTagsN, rdUv_var b1, rdUv_var b2, rdSpan_app u.2 _ rfl]
    rw [putK_end _ _ _ hl, rdTagsN_app us (acc ++ [(u.1, u.2)]) r (by simpa using h) (fun v hv => hb v (by simp [hv]))]
    simp
theorem rdTags_app (us : List Tg) (r : Bs) (h : Rising us) (hb : ∀ u ∈ us, u.1 < 4294967296 ∧ u.2.length < 4294967296) (hn : us.length < 4294967296) :
    rdTags (uvarP us.length ++ ((us.map tagP).flatten ++ r), false) = (us, (r, false)) := by
  simp only [rdTags, rdUv_var hn]
  exact rdTagsN_app us [] r (by simpa using h) hb
/-! unknown tags -/
theorem spot_le (out : List Tg) (k : Nat) : spot out k ≤ out.length := by
  unfold spot; exact (List.takeWhile_prefix _).length_le
theorem take_spot (out : List Tg) (k : Nat) : out.take (spot out k) = out.takeWhile (fun x => x.1 < k) := by
  induction out with
  | nil => rfl
  | cons y r ih =>
    simp only [spot, List.takeWhile_cons] at *
    split
    · simp [ih]
    · simp
theorem drop_spot (out : List Tg) (k : Nat) : out.drop (spot out k) = out.dropWhile (fun x => x.1 < k) := by
  induction out with
  | nil => rfl
  | cons y r ih =>
    simp only [spot, List.takeWhile_cons, List.dropWhile_cons] at *
    split
    · simp [ih]
    · simp
theorem rising_ins {out : List Tg} (h : Rising out) (t : Tg) : Rising (ins out t) := by
  unfold ins
  split
  · exact h
  · rename_i hn
    have hs : out = out.take (spot out t.1) ++ out.drop (spot out t.1) := (List.take_append_drop _ _).symm
    have e1 := take_spot out t.1
    have e2 := drop_spot out t.1
    have h1 : ∀ y ∈ out.take (spot out t.1), y.1 < t.1 := fun y hy => by
      rw [e1] at hy
      have := List.all_eq_true.1 (List.all_takeWhile (p := fun x : Tg => decide (x.1 < t.1)) (l := out)) y hy
      simpa using this
    have h2 : ∀ y ∈ out.drop (spot out t.1), t.1 < y.1 := by
      cases hd : out.drop (spot out t.1) with
      | nil => simp
      | cons z r =>
        have hz : out[spot out t.1]? = some z := by
          have := List.getElem?_drop (xs := out) (i := spot out t.1) (j := 0)
          rw [hd] at this
          simpa using this.symm
        have hz1 : ¬ z.1 = t.1 := by
          rw [hz] at hn
          simpa using hn
        have hz2 : ¬ z.1 < t.1 := by
          have : out.dropWhile (fun x => x.1 < t.1) = z :: r := by rw [← e2, hd]
          intro hlt
          have h3 := List.head?_dropWhile_not (fun x : Tg => decide (x.1 < t.1)) out
          rw [this] at h3
          simp at h3
          omega
        have hp : Rising (z :: r) := by
          have : (out.drop (spot out t.1)).Pairwise (fun a b => a.1 < b.1) := List.Pairwise.sublist (List.drop_sublist _ _) h
          rwa [hd] at this
        intro y hy
        rcases List.mem_cons.1 hy with rfl | hy
        · omega
        · have := (List.pairwise_cons.1 hp).1 y hy
          omega
    unfold Rising at *
    rw [List.pairwise_append, List.pairwise_cons]
    refine ⟨List.Pairwise.sublist (List.take_sublist _ _) h, ⟨fun y hy => h2 y hy, List.Pairwise.sublist (List.drop_sublist _ _) h⟩, fun a ha b hb => ?_⟩
    rcases List.mem_cons.1 hb with rfl | hb
    · exact h1 a ha
    · have := h1 a ha
      have := h2 b hb
      omega
theorem mem_ins {out : List Tg} {t x : Tg} (h : x ∈ ins out t) : x = t ∨ x ∈ out := by
  unfold ins at h
  split at h
  · exact .inr h
  · rcases List.mem_append.1 h with h | h
    · exact .inr (List.mem_of_mem_take h)
    · rcases List.mem_cons.1 h with h | h
      · exact .inl h
      · exact .inr (List.mem_of_mem_drop h)
theorem len_ins (out : List Tg) (t : Tg) : (ins out t).length ≤ out.length + 1 := by
  unfold ins
  split
  · omega
  · simp; have := spot_le out t.1; omega
theorem unknownFrom_spec (least : Nat) : ∀ (l out : List Tg), Rising out → Rising (l.foldl (fun out t => if t.1 < least then out else ins out t) out) ∧
    (∀ x ∈ l.foldl (fun out t => if t.1 < least then out else ins out t) out, x ∈ l ∨ x ∈ out) ∧ (l.foldl (fun out t => if t.1 < least then out else ins out t) out).length ≤ l.length + out.length
  | [], out, h => ⟨h, fun x hx => .inr hx, by simp⟩
  | t :: r, out, h => by
    simp only [List.foldl_cons]
    by_cases hk : t.1 < least
    · rw [if_pos hk]
      obtain ⟨a, b, c⟩ := unknownFrom_spec least r out h
      exact ⟨a, fun x hx => (b x hx).imp (fun h => by simp [h]) id, by simp; omega⟩
    · rw [if_neg hk]
      obtain ⟨a, b, c⟩ := unknownFrom_spec least r (ins out t) (rising_ins h t)
      refine ⟨a, fun x hx => ?_, by have := len_ins out t; simp; omega⟩
      rcases b x hx with h | h
      · exact .inl (by simp [h])
      · rcases mem_ins h with h | h
        · exact .inl (by simp [h])
        · exact .inr h
theorem unknownP_spec (fs : List F) (l : List Tg) : Rising (unknownP fs l) ∧ (∀ x ∈ unknownP fs l, x ∈ l) ∧ (unknownP fs l).length ≤ 32767 := by
  obtain ⟨a, b, c⟩ := unknownFrom_spec (knownP fs) (l.take 32767) [] List.Pairwise.nil
  refine ⟨a, fun x hx => ?_, ?_⟩
  · rcases b x hx with h | h
    · exact List.mem_of_mem_take h
    · cases h
  · simp at c
    unfold unknownP unknownFrom
    omega
/-- what is told of unknown tags -/
def tdU (fs : List F) (u : List Tg) : List Tg := (unknownP fs u).map fun x => (x.1, whole x.2)
theorem tdU_rising (fs : List F) (u : List Tg) : Rising (tdU fs u) := by
  unfold tdU Rising
  rw [List.pairwise_map]
  exact (unknownP_spec fs u).1
theorem tdU_len (fs : List F) (u : List Tg) : (tdU fs u).length ≤ 32767 := by
  simpa [tdU] using (unknownP_spec fs u).2.2
theorem tdU_mem {fs : List F} {u : List Tg} (hu : ∀ x ∈ u, x.1 < 4294967296) : ∀ x ∈ tdU fs u, x.1 < 4294967296 ∧ x.2.length ≤ 32767 := by
  intro x hx
  unfold tdU at hx
  obtain ⟨y, hy, rfl⟩ := List.mem_map.1 hx
  refine ⟨hu y ((unknownP_spec fs u).2.1 y hy), ?_⟩
  simp [whole]; omega
theorem tdU_tags (fs : List F) (u : List Tg) : (unknownP fs u).map (fun u => uvarP u.1 ++ uvarP (whole u.2).length ++ whole u.2) = (tdU fs u).map tagP := by
  simp [tdU, tagP]
/-! what is told of what was written -/
def tdK (kind : Int) (part : T → T) (null : Bool) (t : T) : T :=
  if kind = 0 then .mk (t.n % 2) [] false [] []
  else if kind = 1 then .mk (wrapN 1 t.n) [] false [] []
  else if kind = 2 then .mk (wrapN 2 t.n) [] false [] []
  else if kind = 3 then .mk (wrapN 4 t.n) [] false [] []
  else if kind = 4 then .mk (wrapN 8 t.n) [] false [] []
  else if kind = 5 then .mk (t.n % 65536) [] false [] []
  else if kind = 6 then .mk (wrapN 8 t.n) [] false [] []
  else if kind = 7 then .mk 0 (pad16 t.s) false [] []
  else if kind = 8 then (if null then nstrT none else .mk 0 (whole t.s) false [] [])
  else if kind = 10 then part t
  else T.zero
mutual
def tdF : F → Int → Bool → T → T
  | .mk k a b nul tag dfl ofk sub, v, flex, t =>
    if k = 11 then .mk 0 [] (if nul < 0 then (things t.l).isEmpty else F.isNull (.mk k a b nul tag dfl ofk sub) v t) ((if F.isNull (.mk k a b nul tag dfl ofk sub) v t then [] else things t.l).map (tdK ofk (fun t => .mk 0 [] false (tdFs sub 0 v flex t) (if flex then tdU sub t.u else [])) false)) []
    else tdK k (fun t => .mk 0 [] false (tdFs sub 0 v flex t) (if flex then tdU sub t.u else [])) (F.isNull (.mk k a b nul tag dfl ofk sub) v t) t
def tdFs : List F → Nat → Int → Bool → T → List T
  | [], _, _, _, _ => []
  | f :: r, i, v, flex, t => (if f.has v then tdF f v flex (atT t i) else dflF f) :: tdFs r (i + 1) v flex t
end
def tdPart (fs : List F) (v : Int) (flex : Bool) (t : T) : T := .mk 0 [] false (tdFs fs 0 v flex t) (if flex then tdU fs t.u else [])

/-- fields' octets, one behind another -/
def plainAt : List F → Nat → Int → Bool → T → Bs
  | [], _, _, _, _ => []
  | f :: r, i, v, flex, t => (if f.has v then fieldP f v flex (atT t i) else []) ++ plainAt r (i + 1) v flex t
def untagged : List F → Bool
  | [] => true
  | f :: r => decide (f.tag < 0) && untagged r
theorem plainAt_eq : ∀ (fs : List F) (i : Nat) (v : Int) (flex : Bool) (t : T), untagged fs = true →
    (((fieldsP fs v flex).zipIdx i).filter fun x => decide (x.1.1.tag < 0) && x.1.1.has v).flatMap (fun x => x.1.2 (atT t x.2)) = plainAt fs i v flex t
  | [], _, _, _, _, _ => by simp [fieldsP, plainAt]
  | f :: r, i, v, flex, t, h => by
    simp only [untagged, Bool.and_eq_true, decide_eq_true_eq] at h
    have ih := plainAt_eq r (i + 1) v flex t h.2
    simp only [fieldsP, List.zipIdx_cons, List.filter_cons, plainAt]
    by_cases hv : f.has v = true
    · simp only [hv, h.1, decide_true, Bool.and_self, if_true, List.flatMap_cons, ih]
    · simp only [hv, Bool.and_false, Bool.false_eq_true, if_false, ih, List.nil_append]
theorem known0 : ∀ (fs : List F) (n : Nat), untagged fs = true → fs.foldl (fun n f => if 0 ≤ f.tag then max n (f.tag.toNat + 1) else n) n = n
  | [], _, _ => rfl
  | f :: r, n, h => by
    simp only [untagged, Bool.and_eq_true, decide_eq_true_eq] at h
    simp only [List.foldl_cons]
    rw [if_neg (by omega)]
    exact known0 r n h.2
theorem partP_untagged {fs : List F} (h : untagged fs = true) (v : Int) (flex : Bool) (t : T) :
    partP fs v flex t = if flex then plainAt fs 0 v flex t ++ (uvarP (tdU fs t.u).length ++ ((tdU fs t.u).map tagP).flatten) else plainAt fs 0 v flex t := by
  have e : (fieldsP fs v flex).map (·.1) = fs := by
    rw [fieldsP_map, List.map_map]
    exact (congrArg (fun g => List.map g fs) (show ((fun x : F × (T → Bs) => x.1) ∘ fun f => (f, fieldP f v flex)) = id from rfl)).trans (List.map_id fs)
  have k : knownP fs = 0 := known0 fs 0 h
  unfold partP partOf
  rw [e, k, tdU_tags]
  simp only [plainAt_eq fs 0 v flex t h]
  cases flex <;> simp
/-- a field that every version has, of at least an octet -/
def sureF : F → Bool
  | .mk k a b _ _ _ _ _ => decide (a ≤ 0) && decide (b < 0) && decide (k ≠ 10)
def kindOk (k : Int) : Bool := decide (0 ≤ k) && decide (k ≤ 8)
mutual
/-- a field as the round trip takes it -/
def wfF (flex : Bool) : F → Bool
  | .mk k _ _ nul tag _ ofk sub => decide (tag < 0) && wfFs flex sub && (if k = 11 then kindOk ofk || (decide (ofk = 10) && (flex || sub.any sureF)) else if k = 10 then decide (nul < 0) else kindOk k)
def wfFs (flex : Bool) : List F → Bool
  | [] => true
  | f :: r => wfF flex f && wfFs flex r
end
theorem wfFs_untagged {flex : Bool} : ∀ {fs : List F}, wfFs flex fs = true → untagged fs = true
  | [], _ => rfl
  | .mk k a b nul tag dfl ofk sub :: r, h => by
    simp only [wfFs, wfF, Bool.and_eq_true] at h
    simp only [untagged, F.tag, Bool.and_eq_true]
    exact ⟨h.1.1.1, wfFs_untagged h.2⟩
theorem rdTimes_front (g : St → T × St) : ∀ (n : Nat) (s : St), rdTimes g (n + 1) s = ((g s).1 :: (rdTimes g n (g s).2).1, (rdTimes g n (g s).2).2)
  | 0, s => rfl
  | n + 1, s => by
    rw [rdTimes, rdTimes_front g n s]
    rfl
theorem rdTimes_app {g : St → T × St} {enc : T → Bs} {td : T → T} : ∀ (l : List T) (r : Bs), (∀ x ∈ l, ∀ r, g (enc x ++ r, false) = (td x, (r, false))) → rdTimes g l.length (l.flatMap enc ++ r, false) = (l.map td, (r, false))
  | [], r, _ => rfl
  | x :: l, r, h => by
    rw [List.length_cons, rdTimes_front, List.flatMap_cons, List.append_assoc, h x (by simp)]
    simp only
    rw [rdTimes_app l r (fun y hy => h y (by simp [hy]))]
    rfl
theorem flatMap_long {enc : T → Bs} : ∀ (l : List T), (∀ x ∈ l, 0 < (enc x).length) → l.length ≤ (l.flatMap enc).length
  | [], _ => by simp
  | x :: l, h => by
    have h1 := h x (by simp)
    have h2 := flatMap_long l (fun y hy => h y (by simp [hy]))
    simp only [List.flatMap_cons, List.length_append, List.length_cons]
    omega
theorem things_len (l : List T) : (things l).length ≤ 32767 := by simp [things]; omega
theorem wrapN_small {k n : Nat} (hk : k = 2 ∨ k = 4) (h : n ≤ 32767) : wrapN k (n : Int) = n := by
  unfold wrapN sgn
  rcases hk with rfl | rfl
  · rw [show (2 : Int) ^ (8 * 2) = 65536 by decide, show (2 : Nat) ^ (8 * 2 - 1) = 32768 by decide, if_pos (by omega)]
    omega
  · rw [show (2 : Int) ^ (8 * 4) = 4294967296 by decide, show (2 : Nat) ^ (8 * 4 - 1) = 2147483648 by decide, if_pos (by omega)]
    omega
theorem wrapN_m1 {k : Nat} (hk : k = 2 ∨ k = 4) : wrapN k (-1) = -1 := by
  rcases hk with rfl | rfl <;> decide
theorem uvarP_pos (n : Nat) : 0 < (uvarP n).length := by
  by_cases h : 127 < n
  · rw [uvarP_big h]; simp
  · rw [uvarP_small h]; simp
/-- a text -/
theorem rdStr_app (x r : Bs) (h : x.length ≤ 32767) : rdStr (fixedP x.length 2 ++ (x ++ r), false) = (x, (r, false)) := by
  simp only [rdStr, rdI_fixed, wrapN_small (.inl rfl) h]
  exact rdSpan_app x r rfl
theorem rdCStr_app (x r : Bs) (h : x.length ≤ 32767) : rdCStr (uvarP (x.length + 1) ++ (x ++ r), false) = (x, (r, false)) := by
  simp only [rdCStr, rdUv_var (show x.length + 1 < 4294967296 by omega)]
  exact rdSpan_app x r (by omega)
theorem rdNStr_some (x r : Bs) (h : x.length ≤ 32767) : rdNStr (fixedP x.length 2 ++ (x ++ r), false) = (some x, (r, false)) := by
  simp only [rdNStr, rdI_fixed, wrapN_small (.inl rfl) h, rdStr_app x r h]
  rw [if_neg (by omega)]
theorem rdNStr_none (r : Bs) : rdNStr (fixedP (-1) 2 ++ r, false) = (none, (r, false)) := by
  simp only [rdNStr, rdI_fixed, wrapN_m1 (.inl rfl)]
  rfl
theorem rdCNStr_some (x r : Bs) (h : x.length ≤ 32767) : rdCNStr (uvarP (x.length + 1) ++ (x ++ r), false) = (some x, (r, false)) := by
  simp only [rdCNStr, rdUv_var (show x.length + 1 < 4294967296 by omega), rdCStr_app x r h]
  rw [if_neg (by omega)]
theorem rdCNStr_none (r : Bs) : rdCNStr (0 :: r, false) = (none, (r, false)) := by
  have e : (0 : UInt8) :: r = uvarP 0 ++ r := by rw [uvarP_small (by omega)]; rfl
  rw [e]
  simp only [rdCNStr, rdUv_var (show (0 : Nat) < 4294967296 by omega)]
  rfl
theorem rdLen_app {n : Nat} {r : Bs} (h : n ≤ 32767) (hr : n ≤ r.length) : rdLen (fixedP n 4 ++ r, false) = ((n : Int), (r, false)) := by
  simp only [rdLen, rdI_fixed, wrapN_small (.inr rfl) h]
  rw [if_neg (by omega)]
theorem rdLen_null (r : Bs) : rdLen (fixedP (-1) 4 ++ r, false) = (-1, (r, false)) := by
  simp only [rdLen, rdI_fixed, wrapN_m1 (.inr rfl)]
  rw [if_neg (by omega)]
theorem i32_small {n : Int} (h0 : -10 ≤ n) (h1 : n ≤ 32768) : IntKind.i32.wrap n = n := by
  rw [IntKind.wrap_i32]
  omega
theorem rdCLen_app {n : Nat} {r : Bs} (h : n ≤ 32767) (hr : n ≤ r.length) : rdCLen (uvarP (n + 1) ++ r, false) = ((n : Int), (r, false)) := by
  simp only [rdCLen, rdUv_var (show n + 1 < 4294967296 by omega)]
  rw [i32_small (n := ((n + 1 : Nat) : Int)) (by omega) (by omega), i32_small (by omega) (by omega), if_neg (by omega)]
  congr 1
  omega
theorem rdCLen_null (r : Bs) : rdCLen (0 :: r, false) = (-1, (r, false)) := by
  have e : (0 : UInt8) :: r = uvarP 0 ++ r := by rw [uvarP_small (by omega)]; rfl
  rw [e]
  simp only [rdCLen, rdUv_var (show (0 : Nat) < 4294967296 by omega)]
  rw [show IntKind.i32.wrap (IntKind.i32.wrap ((0 : Nat) : Int) - 1) = -1 from by decide, if_neg (by omega)]
theorem countedP_pos (flex null : Bool) (n size : Nat) (hs : 0 < size) : 0 < (countedP flex null n size).length := by
  unfold countedP
  split
  · simp
  · split
    · exact uvarP_pos _
    · split <;> simp [fixedP_len, hs]
theorem widthP_pos (k : Int) : 0 < widthP k := by
  unfold widthP
  repeat' split
  all_goals decide
theorem valueP_pos {kind : Int} (hk : kindOk kind = true) (part : T → Bs) (null flex : Bool) (t : T) : 0 < (valueP kind part null flex t).length := by
  simp only [kindOk, Bool.and_eq_true, decide_eq_true_eq] at hk
  have h8 := countedP_pos flex null (if null = true then [] else whole t.s).length 2 (by decide)
  unfold valueP
  split
  · simp
  · split
    · simp; omega
    · split
      · rw [List.length_append]; omega
      · rw [if_neg (by omega), if_neg (by omega), fixedP_len]
        exact widthP_pos _
theorem fieldP_pos {flex : Bool} {f : F} (hw : wfF flex f = true) (hs : sureF f = true) (v : Int) (t : T) : 0 < (fieldP f v flex t).length := by
  rw [fieldP_eq]
  obtain ⟨k, a, b, nul, tag, dfl, ofk, sub⟩ := f
  simp only [sureF, Bool.and_eq_true, decide_eq_true_eq] at hs
  simp only [wfF, Bool.and_eq_true, decide_eq_true_eq] at hw
  unfold fieldOf
  by_cases h11 : k = 11
  · rw [if_pos (show F.kind (.mk k a b nul tag dfl ofk sub) = 11 from h11), List.length_append]
    have := countedP_pos flex (F.isNull (.mk k a b nul tag dfl ofk sub) v t) (if F.isNull (.mk k a b nul tag dfl ofk sub) v t = true then [] else things t.l).length 4 (by decide)
    omega
  · rw [if_neg (show ¬ F.kind (.mk k a b nul tag dfl ofk sub) = 11 from h11), if_neg (show ¬ (F.kind (.mk k a b nul tag dfl ofk sub) = 10 ∧ 0 ≤ F.nul (.mk k a b nul tag dfl ofk sub)) from fun h => hs.2 h.1)]
    have h2 := hw.2
    rw [if_neg h11, if_neg hs.2] at h2
    exact valueP_pos h2 _ _ _ _
theorem plainAt_pos {flex : Bool} : ∀ (fs : List F) (i : Nat) (v : Int) (t : T), 0 ≤ v → wfFs flex fs = true → fs.any sureF = true → 0 < (plainAt fs i v flex t).length
  | [], _, _, _, _, _, h => by simp at h
  | f :: r, i, v, t, hv, hw, h => by
    simp only [wfFs, Bool.and_eq_true] at hw
    simp only [plainAt, List.length_append]
    rcases Bool.or_eq_true _ _ ▸ (by simpa using h : (sureF f || r.any sureF) = true) with h | h
    · have hh : f.has v = true := by
        obtain ⟨k, a, b, nul, tag, dfl, ofk, sub⟩ := f
        simp only [sureF, Bool.and_eq_true, decide_eq_true_eq] at h
        show (decide (a ≤ v) && (decide (b < 0) || decide (v ≤ b))) = true
        simp
        omega
      rw [if_pos hh]
      have := fieldP_pos hw.1 h v (atT t i)
      omega
    · have := plainAt_pos r (i + 1) v t hv hw.2 h
      omega
theorem partP_pos {flex : Bool} {fs : List F} (hw : wfFs flex fs = true) (h : (flex || fs.any sureF) = true) {v : Int} (hv : 0 ≤ v) (t : T) : 0 < (partP fs v flex t).length := by
  rw [partP_untagged (wfFs_untagged hw)]
  cases flex with
  | true =>
    have := uvarP_pos (tdU fs t.u).length
    simp only [if_true, List.length_append]
    omega
  | false => exact plainAt_pos fs 0 v t hv hw (by simpa using h)

theorem mod2_bool (n : Int) : (if ((UInt8.ofNat (n % 2).toNat).toNat : Int) != 0 then (1 : Int) else 0) = n % 2 := by
  have h : n % 2 = 0 ∨ n % 2 = 1 := by omega
  rcases h with h | h <;> rw [h] <;> rfl
theorem rdN1_cons (b : UInt8) (r : Bs) : rdN 1 (b :: r, false) = (b.toNat, (r, false)) := by
  simp only [rdN, List.length_cons]
  rw [if_neg (by omega)]
  simp [be]
theorem rdUuid_app (s r : Bs) : rdUuid (pad16 s ++ r, false) = (pad16 s, (r, false)) := by
  have hl : (pad16 s).length = 16 := by simp [pad16]; omega
  simp only [rdUuid, rdSpan_app (pad16 s) r (show (16 : Int) = (pad16 s).length by omega)]
  congr 1
  unfold pad16
  rw [List.take_of_length_le (by simp; omega)]
  simp
  omega
theorem u16_fixed (n : Int) (r : Bs) : rdN 2 (fixedP n 2 ++ r, false) = ((n % 65536).toNat, (r, false)) := rdN_fixed n 2 r
theorem rdK_app {kind : Int} (hk : kindOk kind = true ∨ kind = 10) {pe : T → Bs} {pr : St → T × St} {pt : T → T} {null nul flex : Bool} (hn : null = true → nul = true) (t : T) (r : Bs) (hp : ∀ r, pr (pe t ++ r, false) = (pt t, (r, false))) :
    rdK kind nul flex pr (valueP kind pe null flex t ++ r, false) = (tdK kind pt null t, (r, false)) := by
  simp only [kindOk, Bool.and_eq_true, decide_eq_true_eq] at hk
  by_cases h0 : kind = 0
  · subst h0
    simp only [rdK, tdK, valueP, if_true, List.cons_append, List.nil_append, rdBool, rdN1_cons, mod2_bool]
  by_cases h1 : kind = 1
  · subst h1
    simp only [rdK, tdK, valueP, widthP, rdI_fixed, if_true, reduceIte, Int.reduceEq]
  by_cases h2 : kind = 2
  · subst h2
    simp only [rdK, tdK, valueP, widthP, rdI_fixed, if_true, reduceIte, Int.reduceEq, true_or]
  by_cases h3 : kind = 3
  · subst h3
    simp only [rdK, tdK, valueP, widthP, rdI_fixed, if_true, reduceIte, Int.reduceEq, or_self]
  by_cases h4 : kind = 4
  · subst h4
    simp only [rdK, tdK, valueP, widthP, rdI_fixed, if_true, reduceIte, Int.reduceEq, or_self]
  by_cases h5 : kind = 5
  · subst h5
    simp only [rdK, tdK, valueP, widthP, u16_fixed, if_true, reduceIte, Int.reduceEq, or_true]
    congr 2
    omega
  by_cases h6 : kind = 6
  · subst h6
    simp only [rdK, tdK, valueP, widthP, rdI_fixed, if_true, reduceIte, Int.reduceEq, or_self]
  by_cases h7 : kind = 7
  · subst h7
    have := rdUuid_app t.s r
    unfold pad16 at this
    simp only [rdK, tdK, valueP, if_true, reduceIte, Int.reduceEq, this, pad16]
  by_cases h8 : kind = 8
  · subst h8
    have hl := whole_len t.s
    cases null with
    | true =>
      obtain rfl : nul = true := hn rfl
      cases flex <;> simp [rdK, tdK, valueP, countedP, rdNStr_none, rdCNStr_none]
    | false =>
      cases nul <;> cases flex <;> simp [rdK, tdK, valueP, countedP, rdNStr_some, rdCNStr_some, rdStr_app, rdCStr_app, hl, nstrT]
  · have h10 : kind = 10 := by omega
    subst h10
    simp only [rdK, tdK, valueP, if_true, reduceIte, Int.reduceEq, hp]
mutual
/-- tags' numbers have 32 bits -/
def keysT : T → Prop
  | .mk _ _ _ l u => (∀ x ∈ u, x.1 < 4294967296) ∧ keysTs l
def keysTs : List T → Prop
  | [] => True
  | t :: r => keysT t ∧ keysTs r
end
theorem keysTs_mem : ∀ {l : List T}, keysTs l → ∀ t ∈ l, keysT t
  | [], _, _, h => by cases h
  | x :: r, h, t, ht => by
    rcases List.mem_cons.1 ht with e | e
    · subst e; exact h.1
    · exact keysTs_mem h.2 t e
theorem keysT.at_ {t : T} (h : keysT t) (i : Nat) : keysT (atT t i) := by
  obtain ⟨n, s, b, l, u⟩ := t
  unfold atT
  rw [List.getD_eq_getElem?_getD]
  cases e : (T.l (.mk n s b l u))[i]? with
  | none => exact ⟨by simp, trivial⟩
  | some x => exact keysTs_mem h.2 x (List.mem_of_getElem? e)
theorem keysT.u {t : T} (h : keysT t) : ∀ x ∈ t.u, x.1 < 4294967296 := by
  obtain ⟨n, s, b, l, u⟩ := t
  exact h.1
theorem keysT.l {t : T} (h : keysT t) : ∀ x ∈ t.l, keysT x := by
  obtain ⟨n, s, b, l, u⟩ := t
  exact keysTs_mem h.2
theorem rdPartOf_app {fs : List F} {v : Int} {flex : Bool} (hw : untagged fs = true) {t : T} (ht : keysT t) (h : ∀ r, rdFs fs v flex (plainAt fs 0 v flex t ++ r, false) = (tdFs fs 0 v flex t, (r, false))) (r : Bs) :
    rdPartOf (rdFs fs v flex) flex (partP fs v flex t ++ r, false) = (.mk 0 [] false (tdFs fs 0 v flex t) (if flex then tdU fs t.u else []), (r, false)) := by
  rw [partP_untagged hw]
  cases flex with
  | false => simp only [rdPartOf, Bool.false_eq_true, if_false, h r]
  | true =>
    have hm := tdU_mem (fs := fs) ht.u
    have hl := tdU_len fs t.u
    simp only [rdPartOf, if_true, List.append_assoc, h]
    rw [rdTags_app (tdU fs t.u) r (tdU_rising fs t.u) (fun u hu => ⟨(hm u hu).1, by have := (hm u hu).2; omega⟩) (by omega)]
mutual
theorem rdF_app {flex : Bool} {v : Int} (hv : 0 ≤ v) : ∀ (f : F), wfF flex f = true → ∀ (t : T) (r : Bs), keysT t → rdF f v flex (fieldP f v flex t ++ r, false) = (tdF f v flex t, (r, false))
  | .mk k a b nul tag dfl ofk sub, hw, t, r, ht => by
    simp only [wfF, Bool.and_eq_true, decide_eq_true_eq] at hw
    obtain ⟨⟨_, hws⟩, hk⟩ := hw
    have hpart : ∀ (t : T), keysT t → ∀ (r : Bs), rdPartOf (rdFs sub v flex) flex (partP sub v flex t ++ r, false) = (.mk 0 [] false (tdFs sub 0 v flex t) (if flex then tdU sub t.u else []), (r, false)) :=
      fun t ht r => rdPartOf_app (wfFs_untagged hws) ht (fun r => rdFs_app hv sub hws 0 t r ht) r
    rw [fieldP_eq]
    unfold fieldOf
    simp only [rdF, tdF, F.sub]
    generalize hnull : F.isNull (.mk k a b nul tag dfl ofk sub) v t = null
    have hn : null = true → (decide (0 ≤ nul) && decide (nul ≤ v)) = true := fun h => by
      have hq : (t.null && decide (0 ≤ nul) && decide (nul ≤ v)) = true := hnull.trans h
      simp only [Bool.and_eq_true] at hq ⊢
      exact ⟨hq.1.2, hq.2⟩
    by_cases h11 : k = 11
    · rw [if_pos (show F.kind (.mk k a b nul tag dfl ofk sub) = 11 from h11)]
      rw [if_pos h11] at hk
      simp only [if_pos h11]
      have hk' : kindOk ofk = true ∨ ofk = 10 := by
        rcases Bool.or_eq_true _ _ ▸ hk with h | h
        · exact .inl h
        · simp only [Bool.and_eq_true, decide_eq_true_eq] at h
          exact .inr h.1
      have hpos : ∀ x, 0 < (valueP ofk (partP sub v flex) false flex x).length := fun x => by
        rcases Bool.or_eq_true _ _ ▸ hk with h | h
        · exact valueP_pos h _ _ _ _
        · simp only [Bool.and_eq_true, decide_eq_true_eq] at h
          obtain ⟨rfl, h⟩ := h
          exact partP_pos hws h hv x
      have hel : ∀ x, keysT x → ∀ (r : Bs), rdK ofk false flex (rdPartOf (rdFs sub v flex) flex) (valueP ofk (partP sub v flex) false flex x ++ r, false) = (tdK ofk (fun t => .mk 0 [] false (tdFs sub 0 v flex t) (if flex then tdU sub t.u else [])) false x, (r, false)) := fun x hx r => rdK_app hk' (fun h => h) x r (hpart x hx)
      show rdListOf nul flex v _ (countedP flex null (if null then [] else things t.l).length 4 ++ ((if null then [] else things t.l).flatMap fun x => valueP ofk (partP sub v flex) false flex x) ++ r, false) = _
      cases null with
      | true =>
        have h0 := hn rfl
        simp only [Bool.and_eq_true, decide_eq_true_eq] at h0
        have hneg : ¬ nul < 0 := by omega
        cases flex <;> simp [rdListOf, countedP, rdLen_null, rdCLen_null, rdTimes, hneg, h0]
      | false =>
        have hl := things_len t.l
        have hlong := flatMap_long (enc := valueP ofk (partP sub v flex) false flex) (things t.l) (fun x _ => hpos x)
        have hT := rdTimes_app (g := rdK ofk false flex (rdPartOf (rdFs sub v flex) flex)) (things t.l) r (fun x hx r => hel x (ht.l x (List.mem_of_mem_take hx)) r)
        have e : (decide (((things t.l).length : Int) ≤ 0)) = (things t.l).isEmpty := by
          cases things t.l with
          | nil => rfl
          | cons a l => simp <;> omega
        have e2 : ¬ (((things t.l).length : Int) < 0) := by omega
        have hr : (things t.l).length ≤ (((things t.l).flatMap (valueP ofk (partP sub v flex) false flex)) ++ r).length := by simp only [List.length_append]; omega
        cases flex <;> simp only [rdListOf, countedP, Bool.false_eq_true, if_false, if_true, List.append_assoc, rdLen_app hl hr, rdCLen_app hl hr, Int.toNat_natCast, hT, e, e2, decide_false, Bool.and_false]
    · rw [if_neg (show ¬ F.kind (.mk k a b nul tag dfl ofk sub) = 11 from h11)]
      rw [if_neg h11] at hk
      have h10 : ¬ (F.kind (.mk k a b nul tag dfl ofk sub) = 10 ∧ 0 ≤ F.nul (.mk k a b nul tag dfl ofk sub)) := fun h => by
        rw [if_pos (show k = 10 from h.1)] at hk
        have h1 : nul < 0 := by simpa using hk
        have h2 : 0 ≤ nul := h.2
        omega
      rw [if_neg h10]
      have hk' : kindOk k = true ∨ k = 10 := by
        by_cases hkk : k = 10
        · exact .inr hkk
        · rw [if_neg hkk] at hk; exact .inl hk
      simp only [if_neg h11]
      exact rdK_app hk' hn t r (hpart t ht)
theorem rdFs_app {flex : Bool} {v : Int} (hv : 0 ≤ v) : ∀ (fs : List F), wfFs flex fs = true → ∀ (i : Nat) (t : T) (r : Bs), keysT t → rdFs fs v flex (plainAt fs i v flex t ++ r, false) = (tdFs fs i v flex t, (r, false))
  | [], _, _, _, _, _ => by simp [rdFs, plainAt, tdFs]
  | f :: fs, hw, i, t, r, ht => by
    simp only [wfFs, Bool.and_eq_true] at hw
    simp only [plainAt, tdFs, rdFs]
    by_cases h : f.has v = true
    · simp only [h, if_true, List.append_assoc, rdF_app hv f hw.1 _ _ (ht.at_ i), rdFs_app hv fs hw.2 _ _ _ ht]
    · simp only [h, Bool.false_eq_true, if_false, List.nil_append, rdFs_app hv fs hw.2 _ _ _ ht]
end
/-- WHAT WAS WRITTEN IS READ -/
theorem rdPart_app {fs : List F} {v : Int} {flex : Bool} (hv : 0 ≤ v) (hw : wfFs flex fs = true) {t : T} (ht : keysT t) (r : Bs) : rdPart fs v flex (partP fs v flex t ++ r, false) = (tdPart fs v flex t, (r, false)) :=
  rdPartOf_app (wfFs_untagged hw) ht (fun r => rdFs_app hv fs hw 0 t r ht) r
/-! WHAT AppendTo WRITES of a struct that reads as a tree: the reference without its cuts -/
def apK (kind : Int) (part : T → Bs) (null flex : Bool) (t : T) : Bs :=
  if kind = 0 then [UInt8.ofNat (t.n % 2).toNat]
  else if kind = 7 then t.s
  else if kind = 8 then countedP flex null t.s.length 2 ++ t.s
  else if kind = 9 then countedP flex null t.s.length 4 ++ t.s
  else if kind = 10 then part t
  else fixedP t.n (widthP kind)
def apU (u : List Tg) : Bs := uvarP u.length ++ (u.map tagP).flatten
mutual
def apF : F → Int → Bool → T → Bs
  | .mk k a b nul tag dfl ofk sub, v, flex, t =>
    if k = 11 then countedP flex (F.isNull (.mk k a b nul tag dfl ofk sub) v t) t.l.length 4 ++ t.l.flatMap (apK ofk (fun t => apFs sub v flex t.l ++ (if flex then apU t.u else [])) false flex)
    else apK k (fun t => apFs sub v flex t.l ++ (if flex then apU t.u else [])) (F.isNull (.mk k a b nul tag dfl ofk sub) v t) flex t
/-- fields' trees, one by one -/
def apFs : List F → Int → Bool → List T → Bs
  | [], _, _, _ => []
  | _ :: _, _, _, [] => []
  | f :: r, v, flex, t :: l => (if f.has v then apF f v flex t else []) ++ apFs r v flex l
end
def apPart (fs : List F) (v : Int) (flex : Bool) (t : T) : Bs := apFs fs v flex t.l ++ (if flex then apU t.u else [])
theorem fixed_wrapN (k : Nat) (n : Int) : fixedP (wrapN k n) k = fixedP n k := by
  have h1 := fixed_wrap1 n k k (Nat.le_refl _)
  have h2 := fixed_wrap1 (wrapN k n) k k (Nat.le_refl _)
  rw [← h1, ← h2]
  congr 1
  have hp : (0 : Int) < 2 ^ (8 * k) := Int.pow_pos (by decide)
  have h0 := Int.emod_nonneg n (show (2 : Int) ^ (8 * k) ≠ 0 by omega)
  unfold wrapN sgn
  have e : (((n % 2 ^ (8 * k)).toNat : Nat) : Int) = n % 2 ^ (8 * k) := Int.toNat_of_nonneg h0
  split
  · rw [e, Int.emod_emod]
  · rw [e, Int.sub_emod, Int.emod_self, Int.sub_zero, Int.emod_emod, Int.emod_emod]
theorem apK_td {kind : Int} (hk : kindOk kind = true ∨ kind = 10) {pe pa : T → Bs} {pt : T → T} {null flex : Bool} (t : T) (hp : pa (pt t) = pe t) :
    apK kind pa null flex (tdK kind pt null t) = valueP kind pe null flex t := by
  simp only [kindOk, Bool.and_eq_true, decide_eq_true_eq] at hk
  by_cases h0 : kind = 0
  · subst h0
    simp only [apK, tdK, valueP, if_true, T.n, Int.emod_emod]
  by_cases h1 : kind = 1
  · subst h1
    simp only [apK, tdK, valueP, widthP, T.n, if_true, reduceIte, Int.reduceEq, fixed_wrapN]
  by_cases h2 : kind = 2
  · subst h2
    simp only [apK, tdK, valueP, widthP, T.n, if_true, reduceIte, Int.reduceEq, fixed_wrapN, true_or]
  by_cases h3 : kind = 3
  · subst h3
    simp only [apK, tdK, valueP, widthP, T.n, if_true, reduceIte, Int.reduceEq, fixed_wrapN, or_self]
  by_cases h4 : kind = 4
  · subst h4
    simp only [apK, tdK, valueP, widthP, T.n, if_true, reduceIte, Int.reduceEq, fixed_wrapN, or_self]
  by_cases h5 : kind = 5
  · subst h5
    simp only [apK, tdK, valueP, widthP, T.n, if_true, reduceIte, Int.reduceEq, or_true]
    exact fixed_wrap1 t.n 2 2 (by decide)
  by_cases h6 : kind = 6
  · subst h6
    simp only [apK, tdK, valueP, widthP, T.n, if_true, reduceIte, Int.reduceEq, fixed_wrapN, or_self]
  by_cases h7 : kind = 7
  · subst h7
    simp only [apK, tdK, valueP, T.s, if_true, reduceIte, Int.reduceEq, pad16]
  by_cases h8 : kind = 8
  · subst h8
    cases null <;> simp [apK, tdK, valueP, nstrT, T.s]
  · have h10 : kind = 10 := by omega
    subst h10
    simp only [apK, tdK, valueP, if_true, reduceIte, Int.reduceEq, hp]
/-- null is told of a text alone, and where it may be -/
theorem tdK_null {kind : Int} {pt : T → T} (hpt : ∀ t, (pt t).null = false) (null : Bool) (t : T) : (tdK kind pt null t).null = (decide (kind = 8) && null) := by
  by_cases h8 : kind = 8
  · subst h8
    cases null <;> rfl
  · rw [show decide (kind = 8) = false by simpa using h8, Bool.false_and]
    unfold tdK
    repeat' split
    all_goals first
      | rfl
      | exact hpt _
      | contradiction
theorem tdFs_len : ∀ (fs : List F) (i : Nat) (v : Int) (flex : Bool) (t : T), (tdFs fs i v flex t).length = fs.length
  | [], _, _, _, _ => rfl
  | f :: r, i, v, flex, t => by simp [tdFs, tdFs_len r]
mutual
theorem apF_td {flex : Bool} {v : Int} : ∀ (f : F), wfF flex f = true → ∀ (t : T), apF f v flex (tdF f v flex t) = fieldP f v flex t
  | .mk k a b nul tag dfl ofk sub, hw, t => by
    simp only [wfF, Bool.and_eq_true, decide_eq_true_eq] at hw
    obtain ⟨⟨_, hws⟩, hk⟩ := hw
    have hpart : ∀ (t : T), apFs sub v flex (T.mk 0 [] false (tdFs sub 0 v flex t) (if flex then tdU sub t.u else [])).l ++ (if flex then apU (T.mk 0 [] false (tdFs sub 0 v flex t) (if flex then tdU sub t.u else [])).u else []) = partP sub v flex t := fun t => by
      rw [partP_untagged (wfFs_untagged hws)]
      have h := apFs_td (flex := flex) (v := v) sub hws 0 t
      cases flex <;> simp [T.l, T.u, apU, h]
    rw [fieldP_eq]
    unfold fieldOf
    simp only [apF, tdF, F.sub]
    by_cases h11 : k = 11
    · rw [if_pos (show F.kind (.mk k a b nul tag dfl ofk sub) = 11 from h11)]
      rw [if_pos h11] at hk
      simp only [if_pos h11]
      have hk' : kindOk ofk = true ∨ ofk = 10 := by
        rcases Bool.or_eq_true _ _ ▸ hk with h | h
        · exact .inl h
        · simp only [Bool.and_eq_true, decide_eq_true_eq] at h
          exact .inr h.1
      generalize hnull : F.isNull (.mk k a b nul tag dfl ofk sub) v t = null
      have hq : (t.null && decide (0 ≤ nul) && decide (nul ≤ v)) = null := hnull
      have hnn : F.isNull (.mk k a b nul tag dfl ofk sub) v (.mk 0 [] (if nul < 0 then (things t.l).isEmpty else null) ((if null then [] else things t.l).map (tdK ofk (fun t => .mk 0 [] false (tdFs sub 0 v flex t) (if flex then tdU sub t.u else [])) false)) []) = null := by
        show ((if nul < 0 then (things t.l).isEmpty else null) && decide (0 ≤ nul) && decide (nul ≤ v)) = null
        by_cases h : nul < 0
        · rw [if_pos h, show decide (0 ≤ nul) = false by simpa using h]
          rw [show decide (0 ≤ nul) = false by simpa using h] at hq
          simpa using hq
        · rw [if_neg h]
          cases null with
          | false => simp
          | true =>
            simp only [Bool.and_eq_true] at hq
            simp [hq.1.2, hq.2]
      rw [hnn]
      show countedP flex null ((if null then [] else things t.l).map _).length 4 ++ ((if null then [] else things t.l).map _).flatMap _ = countedP flex null (if null then [] else things t.l).length 4 ++ ((if null then [] else things t.l).flatMap fun x => valueP ofk (partP sub v flex) false flex x)
      rw [List.length_map, List.flatMap_map]
      congr 2
      funext x
      exact apK_td hk' x (hpart x)
    · rw [if_neg (show ¬ F.kind (.mk k a b nul tag dfl ofk sub) = 11 from h11)]
      rw [if_neg h11] at hk
      have h10 : ¬ (F.kind (.mk k a b nul tag dfl ofk sub) = 10 ∧ 0 ≤ F.nul (.mk k a b nul tag dfl ofk sub)) := fun h => by
        rw [if_pos (show k = 10 from h.1)] at hk
        have h1 : nul < 0 := by simpa using hk
        have h2 : 0 ≤ nul := h.2
        omega
      rw [if_neg h10]
      have hk' : kindOk k = true ∨ k = 10 := by
        by_cases hkk : k = 10
        · exact .inr hkk
        · rw [if_neg hkk] at hk; exact .inl hk
      simp only [if_neg h11]
      generalize hnull : F.isNull (.mk k a b nul tag dfl ofk sub) v t = null
      have hq : (t.null && decide (0 ≤ nul) && decide (nul ≤ v)) = null := hnull
      have key : apK k (fun t => apFs sub v flex t.l ++ (if flex then apU t.u else [])) (F.isNull (.mk k a b nul tag dfl ofk sub) v (tdK k (fun t => .mk 0 [] false (tdFs sub 0 v flex t) (if flex then tdU sub t.u else [])) null t)) flex (tdK k (fun t => .mk 0 [] false (tdFs sub 0 v flex t) (if flex then tdU sub t.u else [])) null t) = apK k (fun t => apFs sub v flex t.l ++ (if flex then apU t.u else [])) null flex (tdK k (fun t => .mk 0 [] false (tdFs sub 0 v flex t) (if flex then tdU sub t.u else [])) null t) := by
        by_cases h8 : k = 8
        · have e : F.isNull (.mk k a b nul tag dfl ofk sub) v (tdK k (fun t => .mk 0 [] false (tdFs sub 0 v flex t) (if flex then tdU sub t.u else [])) null t) = null := by
            show ((tdK k (fun t => .mk 0 [] false (tdFs sub 0 v flex t) (if flex then tdU sub t.u else [])) null t).null && decide (0 ≤ nul) && decide (nul ≤ v)) = null
            rw [tdK_null (fun _ => rfl), h8]
            cases null with
            | false => simp
            | true =>
              simp only [Bool.and_eq_true] at hq
              simp only [hq.1.2, hq.2]
              rfl
          rw [e]
        · have hk9 : k ≠ 9 := by
            rcases hk' with h | h
            · simp only [kindOk, Bool.and_eq_true, decide_eq_true_eq] at h; omega
            · omega
          unfold apK
          simp only [if_neg h8, if_neg hk9]
      exact key.trans (apK_td hk' t (hpart t))
theorem apFs_td {flex : Bool} {v : Int} : ∀ (fs : List F), wfFs flex fs = true → ∀ (i : Nat) (t : T), apFs fs v flex (tdFs fs i v flex t) = plainAt fs i v flex t
  | [], _, _, _ => rfl
  | f :: fs, hw, i, t => by
    simp only [wfFs, Bool.and_eq_true] at hw
    simp only [plainAt, tdFs, apFs]
    by_cases h : f.has v = true
    · simp only [h, if_true, apF_td f hw.1, apFs_td fs hw.2]
    · simp only [h, Bool.false_eq_true, if_false, apFs_td fs hw.2]
end
/-- WHAT WAS READ IS WRITTEN AGAIN -/
theorem apPart_td {fs : List F} {v : Int} {flex : Bool} (hw : wfFs flex fs = true) (t : T) : apPart fs v flex (tdPart fs v flex t) = partP fs v flex t := by
  rw [partP_untagged (wfFs_untagged hw)]
  have h := apFs_td (flex := flex) (v := v) fs hw 0 t
  unfold apPart tdPart
  cases flex <;> simp [T.l, T.u, apU, h]
end Go.Proofs.YtobbchmjgoaleaaGreatDoor
/-
  Tags.Len, Tags.AppendEach: the tags by rising numbers onto octets of the call's own.
-/
namespace Go.Proofs.YtobbchmjgoaleaaGreatDoor
open Go.ChangeShapes Go.WideShapes Go.ChangeAt Go.RowKit

set_option maxHeartbeats 400000 in
theorem tlen_any {G : Nat → Prop} {b i : Nat} {v : Value} {u : List Tg} {w : World} {c : Array Value} {t : TypeId} (hb : w.heap[b]? = some (.cells c t (0, 0))) (hc : c[i]? = some v) (hm : MP w G v u) :
    Calls Tryz.prog 139 #[.pointer (some ⟨b, i, none⟩)] w fun e w' => e = .returned (.int .i64 (u.length : Int)) ∧ w = w' := by
  obtain ⟨n, m, h1, ⟨_, _, hcase⟩, h3, rfl, h5⟩ := hm
  have cb : w.cell? ⟨b, i, none⟩ = some v := cellOf hb i _ hc
  rcases hcase with ⟨rfl, hz⟩ | ⟨r, rfl, hown⟩
  · have hm0 : m = [] := by simpa using hz
    subst hm0
    have hlen := Maps.len_nil (w := w) Tryz.underlying80 3
    go_enter Tryz.func139, Tryz.ntmps139
    go_wp2_with fail
    go_ret
    exact ⟨rfl, rfl⟩
  · have hlen := hown.len Tryz.underlying80 3
    rw [tD_size, List.length_map] at hlen
    rw [List.length_map]
    go_enter Tryz.func139, Tryz.ntmps139
    go_wp2_with fail
    go_ret
    exact ⟨rfl, rfl⟩
theorem OB.shp {w : World} {B : Nat} {v : Value} {l : Bs} (h : OB w B v l) : ∃ a n c, v = .slice a n c := by
  obtain ⟨a, c, e⟩ := h.len
  exact ⟨a, _, c, e⟩
/-- the tags' octets are being gathered in the variable at bx: since W0 only J and new blocks have turned -/
structure TgCell (B bx : Nat) (J : Nat → Prop) (W0 W : World) (v : Value) (cur : Bs) : Prop where
  cell : W.heap[bx]? = some (.cells #[v] 22 (0, 0))
  own : OB W B v cur
  ne : v.ownBlock ≠ some bx
  here : ∀ k, v.ownBlock = some k → J k ∨ W0.heap.size ≤ k
  chg : Chg J W0 W
  jb : J bx
  lt : bx < W0.heap.size
  le : B ≤ W0.heap.size
theorem TgCell.rd {B bx : Nat} {J : Nat → Prop} {W0 W : World} {v : Value} {cur : Bs} (h : TgCell B bx J W0 W v cur) : W.cell? ⟨bx, 0, none⟩ = some v ∧ W.frozen? ⟨bx, 0, none⟩ = false := ⟨cellOf h.cell 0 _ rfl, freeOf h.cell 0⟩
theorem TgCell.step {B bx : Nat} {J : Nat → Prop} {W0 W W1 : World} {v v1 : Value} {cur p : Bs} (h : TgCell B bx J W0 W v cur) (ho : OB W1 B v1 (cur ++ p)) (m : Moved W W1 v v1) :
    (W1.cell? ⟨bx, 0, none⟩ = some v ∧ W1.frozen? ⟨bx, 0, none⟩ = false) ∧ TgCell B bx J W0 (W1.setCell ⟨bx, 0, none⟩ v1) v1 (cur ++ p) := by
  have hz := h.chg.size
  have hz1 := m.grown.size
  have hl := h.lt
  have hb : W1.heap[bx]? = some (.cells #[v] 22 (0, 0)) := (m.grown.block bx (by omega) (fun e => h.ne e.symm)).trans h.cell
  have hn1 : v1.ownBlock ≠ some bx := fun e => by
    rcases m.here bx e with q | q
    · exact h.ne q
    · omega
  have hs : ∀ k, k ≠ bx → (W1.setCell ⟨bx, 0, none⟩ v1).heap[k]? = W1.heap[k]? := fun k hk => Below.heap_setCell _ _ _ _ hk
  have hzz : (W1.setCell ⟨bx, 0, none⟩ v1).heap.size = W1.heap.size := by simp [World.setCell]
  refine ⟨⟨cellOf hb 0 _ rfl, freeOf hb 0⟩, ?_, ?_, hn1, fun k e => ?_, ⟨?_, ?_, ?_, by omega, fun k hk hj => ?_⟩, h.jb, hl, h.le⟩
  · simpa using heap_set (i := 0) hb v1
  · obtain ⟨h1, h2 | ⟨g, cap, cu, e, hbb, hg, r⟩⟩ := ho
    · exact ⟨h1, .inl h2⟩
    · refine ⟨h1, .inr ⟨g, cap, cu, e, hbb, ?_, r⟩⟩
      rw [hs g (fun q => hn1 (by rw [e, q]; rfl))]
      exact hg
  · rcases m.here k e with q | q
    · exact h.here k q
    · exact .inr (by omega)
  · exact m.grown.os.trans h.chg.os
  · exact m.grown.tape.trans h.chg.tape
  · exact m.grown.output.trans h.chg.output
  · have hkb : k ≠ bx := fun e => hj (e ▸ h.jb)
    rw [hs k hkb, m.grown.block k (by omega) (fun e => ?_), h.chg.block k hk hj]
    rcases h.here k e.symm with q | q
    · exact hj q
    · omega
/-- .. d tags are in -/
def TgSt (B bx : Nat) (acc : Bs) (us : List Tg) (d : Nat) (J : Nat → Prop) (W : World) : Prop :=
  ∃ v, TgCell B bx J W W v (acc ++ ((us.take d).map tagP).flatten) ∧ (∀ k, v.ownBlock = some k → J k) ∧ (∀ k, J k → B ≤ k)
set_option maxHeartbeats 1000000 in
set_option maxRecDepth 100000 in
theorem each_step {G : Nat → Prop} {W : World} {B bx d : Nat} {acc : Bs} {us : List Tg} {J : Nat → Prop} {x : Value} (h : TgSt B bx acc us d J W) (hd : d < us.length) (hk : us[d].1 < 4294967296) (hl : us[d].2.length ≤ 1000000) (hx : RB W G x us[d].2) (hGB : ∀ k, G k → k < B) (hb : (acc ++ (us.map tagP).flatten).length ≤ 17592186044416) :
    Calls Tryz.prog 193 #[.int .u32 (us[d].1 : Int), x, .pointer (some ⟨bx, 0, none⟩)] W fun e W' => e = .returned (.tuple #[]) ∧ ∃ J', TgSt B bx acc us (d + 1) J' W' ∧ (∀ j, J' j → J j ∨ W.heap.size ≤ j) ∧ Chg J W W' := by
  obtain ⟨v, hc, hJv, hJB⟩ := h
  obtain ⟨ax, cx, rfl⟩ := RS.shape hx
  have hsuc : ((us.take (d + 1)).map tagP).flatten = ((us.take d).map tagP).flatten ++ (uvarP us[d].1 ++ uvarP us[d].2.length ++ us[d].2) := by
    rw [List.take_succ_eq_append_getElem hd, List.map_append, List.flatten_append]
    simp only [List.map_cons, List.map_nil, List.flatten_cons, List.flatten_nil, List.append_nil]
    rfl
  have hlen : (acc ++ ((us.take (d + 1)).map tagP).flatten).length ≤ 17592186044416 := by
    have e3 : (us.map tagP).flatten = ((us.take (d + 1)).map tagP).flatten ++ ((us.drop (d + 1)).map tagP).flatten := by
      rw [← List.flatten_append, ← List.map_append, List.take_append_drop]
    rw [e3] at hb
    simp only [List.length_append] at hb ⊢
    omega
  have HSUC : Hid _ := Lib.hid hsuc
  rw [hsuc] at hlen
  simp only [List.length_append] at hlen
  clear hsuc hb
  generalize ((us.take d).map tagP).flatten = cur at *
  generalize us[d].1 = key at *
  generalize us[d].2 = val at *
  obtain ⟨c0, f0⟩ := hc.rd
  have hBW := hc.le
  have tok1 : Hid True := Lib.hid trivial
  go_enter Tryz.func193, Tryz.ntmps193
  go_wp2_with (first
    | (go_at_call 138; have _t := tok1; go_loud (refine (appuv_at hc.own hBW hk (by simp only [List.length_append]; omega)).mono ?_; rintro e w1 ⟨v1, rfl, h1, m1⟩; obtain ⟨a1, n1, p1, rfl⟩ := h1.shp; clear tok1 _t c0 f0; obtain ⟨⟨c0, f0⟩, hc1⟩ := hc.step h1 m1; have q1 := hc1.rd; have z1 := hc1.chg.size; have tok2 : Hid True := Lib.hid trivial))
    | (go_at_call 138; have _t := tok2; go_loud (refine (appuv_at (n := val.length) hc1.own (by omega) (by omega) (by simp only [List.length_append]; omega)).mono ?_; rintro e w3 ⟨v3, rfl, h3, m3⟩; obtain ⟨a3, n3, p3, rfl⟩ := h3.shp; clear tok2 _t c0 f0 q1; obtain ⟨⟨c0, f0⟩, hc3⟩ := hc1.step h3 m3; have q3 := hc3.rd; have z3 := hc3.chg.size; have tok3 : Hid True := Lib.hid trivial))
    | (at_builtin; have _t := tok3; go_loud (refine app_at rfl _ _ rfl B _ _ rfl hc3.own _ val G rfl (hx.keepF (fun k hk => hc3.chg.block k (by have := hGB k hk; omega) (fun e => by have := hJB k e; have := hGB k hk; omega)) (fun _ h => h)) (by simp only [List.length_append]; omega) (by omega) ?_; intro v5 w5 h5 m5; obtain ⟨a5, n5, p5, rfl⟩ := h5.shp; clear tok3 _t c0 f0 q3; obtain ⟨⟨c0, f0⟩, hc5⟩ := hc3.step h5 m5)))
  refine bodyPost_end (v := .tuple #[]) (by simp [results, Tryz.results193, go_sem]) rfl ⟨rfl, fun j => J j ∨ W.heap.size ≤ j, ?_, fun _ h => h, hc5.chg⟩
  refine ⟨_, ⟨hc5.cell, ?_, hc5.ne, fun k e => .inl (hc5.here k e), Chg.refl _ _, .inl hc5.jb, Nat.lt_of_lt_of_le hc5.lt hc5.chg.size, Nat.le_trans hc5.le hc5.chg.size⟩, fun k e => hc5.here k e, fun k hk => hk.elim (hJB k) (fun h => by omega)⟩
  rw [HSUC.out, ← List.append_assoc, ← List.append_assoc, ← List.append_assoc]
  exact hc5.own
set_option maxHeartbeats 1000000 in
set_option maxRecDepth 100000 in
theorem appeach_any {G : Nat → Prop} {b i B : Nat} {vm v : Value} {us : List Tg} {w : World} {c : Array Value} {t : TypeId} {acc : Bs} (hb : w.heap[b]? = some (.cells c t (0, 0))) (hc : c[i]? = some vm) (hm : MP w G vm us) (hbB : b < B) (hGB : ∀ k, G k → k < B) (ho : OB w B v acc) (hB : B ≤ w.heap.size) (hs : ∀ x ∈ us, x.2.length ≤ 1000000) (hl : (acc ++ (us.map tagP).flatten).length ≤ 17592186044416) :
    Calls Tryz.prog 140 #[.pointer (some ⟨b, i, none⟩), v] w fun e w' => ∃ v', e = .returned v' ∧ OB w' B v' (acc ++ (us.map tagP).flatten) ∧ Below B w w' := by
  obtain ⟨n, m, hn, hmo, hmb, rfl, hoct⟩ := hm
  obtain ⟨av, nv, cv, rfl⟩ := ho.shp
  obtain ⟨w1, hw1⟩ : ∃ x, x = w.alloc (.cells #[.slice av nv cv] 22) := ⟨_, rfl⟩
  have k1 : Keep [] w w1 := by rw [hw1]; exact keep_box _
  have hbx : w1.heap[w.heap.size]? = some (.cells #[.slice av nv cv] 22 (0, 0)) := by rw [hw1]; exact heap_alloc_new w _
  have hz1 : w1.heap.size = w.heap.size + 1 := by rw [hw1]; simp
  have hkeys := hmo.2.1
  have ST0 : TgSt B w.heap.size acc (m.map fun x => (x.1, x.2.2)) 0 (fun k => B ≤ k ∧ k < w1.heap.size) w1 :=
    ⟨_, ⟨hbx, by simpa using ho.keep k1, (fun e => by have := (ho.lt _ e).2; omega), fun k e => .inl ⟨(ho.lt k e).1, by have := (ho.lt k e).2; omega⟩, Chg.refl _ _, ⟨hB, by omega⟩, by omega, by omega⟩, fun k e => ⟨(ho.lt k e).1, by have := (ho.lt k e).2; omega⟩, fun k hk => hk.1⟩
  have EACH := each_any (i := i) (v := vm) (n := n) (tv := m.map fun x => (x.1, x.2.1)) (w := w1) (p := .pointer (some ⟨w.heap.size, 0, none⟩)) ((k1.block b (by omega) (by simp)).trans hb) hc (hmo.kept (fun k hk => k1.block k (by have := hGB k (hmb k hk); omega) (by simp))) (by omega)
    (enters_of Tryz.func193 (by kernel_rfl) rfl) (fun d J W => TgSt B w.heap.size acc (m.map fun x => (x.1, x.2.2)) d J W ∧ (∀ k, k < B → W.heap[k]? = w.heap[k]?)) (fun k => B ≤ k ∧ k < w1.heap.size) ⟨ST0, fun k hk => k1.block k (by omega) (by simp)⟩ (fun h => by omega) (fun k hk h => by have := hGB k (hmb k hk); omega) (fun k hk => hk.2)
    (fun d J W W' hI hK => by
      obtain ⟨⟨v', hc', h2, h3⟩, h4⟩ := hI
      have hz := hK.size
      have hl' := hc'.lt
      have hle := hc'.le
      exact ⟨⟨v', ⟨(hK.block _ hl' (by simp)).trans hc'.cell, hc'.own.keep hK, hc'.ne, fun k e => .inl (h2 k e), Chg.refl _ _, hc'.jb, by omega, by omega⟩, h2, h3⟩, fun k hk => (hK.block k (by omega) (by simp)).trans (h4 k hk)⟩)
    (fun j hj J W hI hW => by
      obtain ⟨hst, hbel⟩ := hI
      have hjm : j < m.length := by simpa using hj
      have hx : RB W G (m[j]).2.1 (m[j]).2.2 := (hoct _ (List.getElem_mem hjm)).keepF (fun k hk => hbel k (hGB k hk)) (fun _ h => h)
      have S := each_step (G := G) (x := (m[j]).2.1) hst (by simpa using hjm) (by simpa using hkeys _ (List.mem_map.2 ⟨m[j], List.getElem_mem hjm, rfl⟩)) (by simpa using hs _ (List.mem_map.2 ⟨m[j], List.getElem_mem hjm, rfl⟩)) (by simpa using hx) hGB hl
      simp only [List.getElem_map] at S ⊢
      refine S.mono ?_
      rintro e W' ⟨rfl, J', h1, h2, h3⟩
      obtain ⟨_, _, _, h5⟩ := id h1
      obtain ⟨v0, hc0, _, hJB0⟩ := hst
      exact ⟨rfl, J', ⟨h1, fun k hk => (h3.block k (by have := hc0.le; omega) (fun e => by have := hJB0 k e; omega)).trans (hbel k hk)⟩, h2, h3⟩)
  clear ST0
  have HE : Hid _ := Lib.hid EACH
  clear EACH
  go_enter Tryz.func140, Tryz.ntmps140
  subst hw1
  go_wp2_with (go_at_call 192; go_loud (refine Calls.mono HE.out ?_; rintro e w2 ⟨rfl, J', ⟨⟨v2, hc2, hj2, hb2⟩, hbel⟩, hjj, hch⟩; obtain ⟨a2, n2, p2, rfl⟩ := hc2.own.shp; obtain ⟨c0, f0⟩ := hc2.rd))
  go_ret
  refine ⟨_, rfl, ?_, hch.os, hch.tape, hch.output, Nat.le_trans (by simp) hch.size, hbel⟩
  have e := hc2.own
  rw [List.take_of_length_le (by simp)] at e
  exact e
end Go.Proofs.YtobbchmjgoaleaaGreatDoor
/-
  A struct's cells within a block; fields taken apart.
-/
namespace Go.Proofs.YtobbchmjgoaleaaGreatDoor
open Go.ChangeShapes Go.WideShapes Go.ChangeAt Go.RowKit

/-- a struct's cells within a block -/
def Pt (W : World) (pb po : Nat) (c : List Value) : Prop := ∃ pre post ty, W.heap[pb]? = some (.cells (pre ++ (c ++ post)).toArray ty (0, 0)) ∧ pre.length = po
theorem Pt.keep {A : List Nat} {W W' : World} {pb po : Nat} {c : List Value} (h : Pt W pb po c) (k : Keep A W W') (ha : pb ∉ A) : Pt W' pb po c := by
  obtain ⟨pre, post, ty, h1, h2⟩ := h
  exact ⟨pre, post, ty, (k.block pb (World.heap_lt h1) ha).trans h1, h2⟩
theorem Pt.cell {W : World} {pb po : Nat} {c : List Value} (h : Pt W pb po c) {o j : Nat} {v : Value} (ho : o = po + j) (hv : c[j]? = some v) : W.cell? ⟨pb, o, none⟩ = some v := by
  obtain ⟨pre, post, ty, h1, h2⟩ := h
  refine cellOf h1 o _ ?_
  have hj := (List.getElem?_eq_some_iff.1 hv).1
  subst ho h2
  simp [List.getElem?_append_right, List.getElem?_append_left hj, hv]
theorem Pt.lt {W : World} {pb po : Nat} {c : List Value} (h : Pt W pb po c) : pb < W.heap.size := by
  obtain ⟨pre, post, ty, h1, h2⟩ := h
  exact World.heap_lt h1
theorem Pt.whole {W : World} {pb po : Nat} {c : List Value} (h : Pt W pb po c) {o j : Nat} {v : Value} (ho : o = po + j) (hv : c[j]? = some v) : ∃ arr ty, W.heap[pb]? = some (.cells arr ty (0, 0)) ∧ arr[o]? = some v := by
  obtain ⟨pre, post, ty, h1, h2⟩ := h
  have hj := (List.getElem?_eq_some_iff.1 hv).1
  refine ⟨_, ty, h1, ?_⟩
  subst ho h2
  simp [List.getElem?_append_right, List.getElem?_append_left hj, hv]

section
variable {W : World} {G : Nat → Prop} {a b nul c d e : Int} {sub : List F} {cs : List Value} {t : T}
theorem vf_bool_inv (h : VF W G (.mk 0 a b nul c d e sub) cs t) : ∃ x : Bool, cs = [.bool x] ∧ t = .mk (if x then 1 else 0) [] false [] [] := h
theorem vf_i8_inv (h : VF W G (.mk 1 a b nul c d e sub) cs t) : ∃ n : Int, cs = [.int .i8 n] ∧ (-128 ≤ n ∧ n ≤ 127) ∧ t = .mk n [] false [] [] := h
theorem vf_i16_inv (h : VF W G (.mk 2 a b nul c d e sub) cs t) : ∃ n : Int, cs = [.int .i16 n] ∧ (-32768 ≤ n ∧ n ≤ 32767) ∧ t = .mk n [] false [] [] := h
theorem vf_i32_inv (h : VF W G (.mk 3 a b nul c d e sub) cs t) : ∃ n : Int, cs = [.int .i32 n] ∧ (-2147483648 ≤ n ∧ n ≤ 2147483647) ∧ t = .mk n [] false [] [] := h
theorem vf_i64_inv (h : VF W G (.mk 4 a b nul c d e sub) cs t) : ∃ n : Int, cs = [.int .i64 n] ∧ (-9223372036854775808 ≤ n ∧ n ≤ 9223372036854775807) ∧ t = .mk n [] false [] [] := h
theorem vf_8 (h : VF W G (.mk 8 a b nul c d e sub) cs t) : if 0 ≤ nul then ∃ v o, cs = [v] ∧ PS W G v o ∧ t = nstrT o else ∃ x : Bs, cs = [str x] ∧ t = .mk 0 x false [] [] := by
  have h' : VK W G 8 nul (VFs W G sub) cs t := h
  simp only [VK] at h'
  rw [if_neg (by decide), if_neg (by decide), if_neg (by decide), if_neg (by decide), if_neg (by decide), if_neg (by decide), if_neg (by decide), if_pos True.intro] at h'
  exact h'
theorem vf_str_inv (hn : nul < 0) (h : VF W G (.mk 8 a b nul c d e sub) cs t) : ∃ x : Bs, cs = [.string ⟨x.toArray⟩] ∧ t = .mk 0 x false [] [] := by
  have h' := vf_8 h
  rw [if_neg (by omega)] at h'
  exact h'
theorem vf_nstr_inv (hn : 0 ≤ nul) (h : VF W G (.mk 8 a b nul c d e sub) cs t) : ∃ v o, cs = [v] ∧ PS W G v o ∧ t = nstrT o := by
  have h' := vf_8 h
  rw [if_pos hn] at h'
  exact h'
theorem vf_oct_inv (h : VF W G (.mk 9 a b nul c d e sub) cs t) : ∃ v o, cs = [v] ∧ OS W G v o ∧ t = octT o := h
theorem vf_list_inv (h : VF W G (.mk 11 a b nul c d e sub) cs t) : ∃ v, cs = [v] ∧ VL W G (VK W G e (-1) (VFs W G sub)) (wdK e (wdFs sub)) v t := h
end
theorem RW.part {W : World} {G : Nat → Prop} {v : Value} {css : List (List Value)} {m n : Nat} (h : RW W G v n css.flatten) (hn : css.length = n) (hm : ∀ c ∈ css, c.length = m) {i : Nat} (hi : i < css.length) : ∃ row cap, v = .slice (some ⟨row, 0, none⟩) n cap ∧ n ≤ cap ∧ G row ∧ Pt W row (i * m) css[i] := by
  subst hn
  rcases h with ⟨h0, _⟩ | ⟨h0, row, cap, extra, ty, h1, h2, h3, h4⟩
  · omega
  · refine ⟨row, cap, h1, h2, h3, (css.take i).flatten, (css.drop (i + 1)).flatten ++ extra, ty, ?_, ?_⟩
    · have e : css = css.take i ++ css[i] :: css.drop (i + 1) := by rw [← List.drop_eq_getElem_cons hi, List.take_append_drop]
      have e2 : css.flatten = (css.take i).flatten ++ (css[i] ++ (css.drop (i + 1)).flatten) := by
        have e3 := congrArg List.flatten e
        rw [List.flatten_append, List.flatten_cons] at e3
        exact e3
      have e4 : css.flatten ++ extra = (css.take i).flatten ++ (css[i] ++ ((css.drop (i + 1)).flatten ++ extra)) := by rw [e2, List.append_assoc, List.append_assoc]
      rw [h4, e4]
    · rw [flatten_len _ m (fun c hc => hm c (List.mem_of_mem_take hc)), List.length_take, Nat.min_eq_left (by omega), Nat.mul_comm]
theorem small_text {N : Nat} {o : Option Bs} (h : small N (nstrT o)) : ∀ x, o = some x → x.length ≤ N := by
  rintro x rfl
  exact h.1
theorem small_oct {N : Nat} {o : Option Bs} (h : small N (octT o)) : ∀ x, o = some x → x.length ≤ N := by
  rintro x rfl
  exact h.1
section
variable {W : World} {G : Nat → Prop} {nul : Int} {p : List Value → List T → Prop} {cs : List Value} {t : T}
theorem vk_i8_inv (h : VK W G 1 nul p cs t) : ∃ n : Int, cs = [.int .i8 n] ∧ (-128 ≤ n ∧ n ≤ 127) ∧ t = .mk n [] false [] [] := h
theorem vk_i16_inv (h : VK W G 2 nul p cs t) : ∃ n : Int, cs = [.int .i16 n] ∧ (-32768 ≤ n ∧ n ≤ 32767) ∧ t = .mk n [] false [] [] := h
theorem vk_i32_inv (h : VK W G 3 nul p cs t) : ∃ n : Int, cs = [.int .i32 n] ∧ (-2147483648 ≤ n ∧ n ≤ 2147483647) ∧ t = .mk n [] false [] [] := h
theorem vk_i64_inv (h : VK W G 4 nul p cs t) : ∃ n : Int, cs = [.int .i64 n] ∧ (-9223372036854775808 ≤ n ∧ n ≤ 9223372036854775807) ∧ t = .mk n [] false [] [] := h
theorem vk_str_inv (h : VK W G 8 (-1) p cs t) : ∃ x : Bs, cs = [.string ⟨x.toArray⟩] ∧ t = .mk 0 x false [] [] := by
  have h2 : ∃ x : Bs, cs = [str x] ∧ t = .mk 0 x false [] [] := by
    simp only [VK] at h
    simpa using h
  exact h2
end
end Go.Proofs.YtobbchmjgoaleaaGreatDoor
