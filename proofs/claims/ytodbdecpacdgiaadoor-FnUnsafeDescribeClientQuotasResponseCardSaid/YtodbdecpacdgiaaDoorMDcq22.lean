/-
  DescribeClientQuotasResponse: its doors for reading and telling.
-/
import Derived.Test.YtodbdecpacdgiaaDoorMDcq5
import Derived.Test.YtodbdecpacdgiaaDoorMDcq9
import Derived.Test.YtodbdecpacdgiaaDoorMDcq13
import Derived.Test.YtodbdecpacdgiaaDoorMDcq17
import Derived.Test.YtodbdecpacdgiaaDoorMDcq21
import Derived.Test.YtodbdecpacdgiaaDoorMB18
import Derived.Deep.Cut
namespace Go.Proofs.YtodbdecpacdgiaaDoor
open Go.ChangeShapes Go.WideShapes Go.ChangeAt Go.RowKit

theorem dcq_readFrom {G : Nat → Prop} {b : Nat} {p : Addr} {l : Bs} {src : Value} {w : World} {ver : Int} (hb : w.heap[b]? = some (.cells #[.int .i16 ver, .int .i32 0, .int .i16 0, .pointer none, .slice none 0 0, .map none] 114 (0, 0))) (hl : RB w G src l) (hG : There G w) (hGb : ¬ G b) (hg : Gl w p) (hp : b ≠ 0) (hv0 : 0 ≤ ver) :
    Calls Tryd.prog 79 #[.pointer (some ⟨b, 0, none⟩), src, .bool false] w fun e w' => e = .returned (errV p (rdPart q_DescribeClientQuotasResponse ver (decide ((1 : Int) ≤ ver)) (l, false)).2.2) ∧ Keep [b] w w' ∧ ((rdPart q_DescribeClientQuotasResponse ver (decide ((1 : Int) ≤ ver)) (l, false)).2.2 = false → VM w' (New G w w') b q_DescribeClientQuotasResponse 114 ver (rdPart q_DescribeClientQuotasResponse ver (decide ((1 : Int) ≤ ver)) (l, false)).1) := by
  by_cases b1 : (1 : Int) ≤ ver
  · rw [show decide ((1 : Int) ≤ ver) = true from decide_eq_true (by omega)]
    exact dcq_read_1s hb hl hG hGb hg hp hv0 (by omega)
  · rw [show decide ((1 : Int) ≤ ver) = false from decide_eq_false (by omega)]
    exact dcq_read_0s hb hl hG hGb hg hp hv0 (by omega)
theorem dcq_ReadFrom {G : Nat → Prop} {b : Nat} {p : Addr} {l : Bs} {src : Value} {w : World} {ver : Int} (hb : w.heap[b]? = some (.cells #[.int .i16 ver, .int .i32 0, .int .i16 0, .pointer none, .slice none 0 0, .map none] 114 (0, 0))) (hl : RB w G src l) (hG : There G w) (hGb : ¬ G b) (hg : Gl w p) (hp : b ≠ 0) (hv0 : 0 ≤ ver) :
    Calls Tryd.prog 54 #[.pointer (some ⟨b, 0, none⟩), src] w fun e w' => e = .returned (errV p (rdPart q_DescribeClientQuotasResponse ver (decide ((1 : Int) ≤ ver)) (l, false)).2.2) ∧ Keep [b] w w' ∧ ((rdPart q_DescribeClientQuotasResponse ver (decide ((1 : Int) ≤ ver)) (l, false)).2.2 = false → VM w' (New G w w') b q_DescribeClientQuotasResponse 114 ver (rdPart q_DescribeClientQuotasResponse ver (decide ((1 : Int) ≤ ver)) (l, false)).1) := by
  have RF := dcq_readFrom hb hl hG hGb hg hp hv0
  clear hb
  go_enter Tryd.func54, Tryd.ntmps54
  go_wp2_with (go_at_call 79; refine RF.mono ?_; rintro e w1 ⟨rfl, h1⟩)
  go_ret
  exact ⟨rfl, h1⟩
theorem dcq_readFromU {G : Nat → Prop} {b : Nat} {p : Addr} {l : Bs} {src : Value} {w : World} {ver : Int} (hb : w.heap[b]? = some (.cells #[.int .i16 ver, .int .i32 0, .int .i16 0, .pointer none, .slice none 0 0, .map none] 114 (0, 0))) (hl : RB w G src l) (hG : There G w) (hGb : ¬ G b) (hg : Gl w p) (hp : b ≠ 0) (hv0 : 0 ≤ ver) :
    Calls Tryd.prog 79 #[.pointer (some ⟨b, 0, none⟩), src, .bool true] w fun e w' => e = .returned (errV p (rdPart q_DescribeClientQuotasResponse ver (decide ((1 : Int) ≤ ver)) (l, false)).2.2) ∧ Keep [b] w w' ∧ ((rdPart q_DescribeClientQuotasResponse ver (decide ((1 : Int) ≤ ver)) (l, false)).2.2 = false → VM w' (New G w w') b q_DescribeClientQuotasResponse 114 ver (rdPart q_DescribeClientQuotasResponse ver (decide ((1 : Int) ≤ ver)) (l, false)).1) := by
  by_cases b1 : (1 : Int) ≤ ver
  · rw [show decide ((1 : Int) ≤ ver) = true from decide_eq_true (by omega)]
    exact dcq_read_1u hb hl hG hGb hg hp hv0 (by omega)
  · rw [show decide ((1 : Int) ≤ ver) = false from decide_eq_false (by omega)]
    exact dcq_read_0u hb hl hG hGb hg hp hv0 (by omega)
theorem dcq_UnsafeReadFrom {G : Nat → Prop} {b : Nat} {p : Addr} {l : Bs} {src : Value} {w : World} {ver : Int} (hb : w.heap[b]? = some (.cells #[.int .i16 ver, .int .i32 0, .int .i16 0, .pointer none, .slice none 0 0, .map none] 114 (0, 0))) (hl : RB w G src l) (hG : There G w) (hGb : ¬ G b) (hg : Gl w p) (hp : b ≠ 0) (hv0 : 0 ≤ ver) :
    Calls Tryd.prog 56 #[.pointer (some ⟨b, 0, none⟩), src] w fun e w' => e = .returned (errV p (rdPart q_DescribeClientQuotasResponse ver (decide ((1 : Int) ≤ ver)) (l, false)).2.2) ∧ Keep [b] w w' ∧ ((rdPart q_DescribeClientQuotasResponse ver (decide ((1 : Int) ≤ ver)) (l, false)).2.2 = false → VM w' (New G w w') b q_DescribeClientQuotasResponse 114 ver (rdPart q_DescribeClientQuotasResponse ver (decide ((1 : Int) ≤ ver)) (l, false)).1) := by
  have RF := dcq_readFromU hb hl hG hGb hg hp hv0
  clear hb
  go_enter Tryd.func56, Tryd.ntmps56
  go_wp2_with (go_at_call 79; refine RF.mono ?_; rintro e w1 ⟨rfl, h1⟩)
  go_ret
  exact ⟨rfl, h1⟩
theorem dcq_new (w : World) : Calls Tryd.prog 51 #[] w fun e w' => e = .returned (.pointer (some ⟨w.heap.size, 0, none⟩)) ∧ (w.alloc (.cells #[.int .i16 0, .int .i32 0, .int .i16 0, .pointer none, .slice none 0 0, .map none] 114)) = w' := by
  go_enter Tryd.func51, Tryd.ntmps51
  go_wp2_with (go_at_call 78; refine (d_DescribeClientQuotasResponse _ _).mono ?_; rintro e w1 ⟨rfl, rfl⟩)
  go_ret
  exact ⟨rfl, rfl⟩
theorem dcq_max (w : World) (x : Value) : Calls Tryd.prog 52 #[x] w fun e w' => e = .returned (.int .i16 1) ∧ w = w' := by
  go_enter Tryd.func52, Tryd.ntmps52
  go_wp2
  go_ret
  exact ⟨rfl, rfl⟩
theorem dcq_Max (w : World) : Calls Tryd.prog 23 #[] w fun e w' => e = .returned (.int .i64 1) ∧ Keep [] w w' := by
  go_enter Tryd.func23, Tryd.ntmps23
  go_wp2_with (first
    | (go_at_call 51; refine (dcq_new _).mono ?_; rintro e w1 ⟨rfl, rfl⟩)
    | (go_at_call 52; refine (dcq_max _ _).mono ?_; rintro e w2 ⟨rfl, rfl⟩))
  go_ret
  exact ⟨rfl, keep_box _⟩
theorem dcq_setv {w : World} {b : Nat} {v : Int} {x : Value} (h : w.cell? ⟨b, 0, none⟩ = some x) (hf : w.frozen? ⟨b, 0, none⟩ = false) : Calls Tryd.prog 53 #[.pointer (some ⟨b, 0, none⟩), .int .i16 v] w fun e w' => e = .returned (.tuple #[]) ∧ w.setCell ⟨b, 0, none⟩ (.int .i16 v) = w' := by
  go_enter Tryd.func53, Tryd.ntmps53
  go_wp2
  refine bodyPost_end (v := .tuple #[]) (by simp [results, Tryd.results53, go_sem]) rfl ⟨rfl, rfl⟩
set_option maxHeartbeats 1600000 in
set_option maxRecDepth 100000 in
theorem dcq_Tell {G : Nat → Prop} {p : Addr} {l : Bs} {src : Value} {w : World} {v : Int} {t : T} {rest : Bs} {bad : Bool} (hv : 0 ≤ v ∧ v ≤ 1) (hl : RB w G src l) (hll : l.length ≤ 36000000000000) (hG : There G w) (hg : Gl w p) (hrd : rdPart q_DescribeClientQuotasResponse v (decide ((1 : Int) ≤ v)) (l, false) = (t, (rest, bad))) (hsm : small 1000000 t) :
    Calls Tryd.prog 24 #[.int .i64 v, src] w fun e w' => ∃ c, e = .returned (.tuple #[.agg c.toArray, .bool (!bad)]) ∧ HT w' (New (fun _ => False) w w') (if bad then T.zero else t) c ∧ Keep [] w w' := by
  obtain ⟨ao, cap, rfl⟩ := RS.shape hl
  have hp1 : 0 < w.heap.size := World.block_lt_of_cell? w _ hg
  have hwr : IntKind.i16.wrap v = v := by rw [wrap_i16']; split <;> omega
  have HRD : Hid _ := hrd
  clear hrd
  cases bad
  · rw [if_neg Bool.false_ne_true]
    go_enter Tryd.func24, Tryd.ntmps24
    have k0 : Keep [] w ((w.alloc (.cells #[.int .i64 0, .slice none 0 0, .bool false, .slice none 0 0, .slice none 0 0] 27)).alloc (.cells #[.int .i16 v, .int .i32 0, .int .i16 0, .pointer none, .slice none 0 0, .map none] 114)) := (keep_box (A := []) _).alloc _
    have h0 : ((w.alloc (.cells #[.int .i64 0, .slice none 0 0, .bool false, .slice none 0 0, .slice none 0 0] 27)).alloc (.cells #[.int .i16 v, .int .i32 0, .int .i16 0, .pointer none, .slice none 0 0, .map none] 114)).heap[w.heap.size]? = some (.cells #[.int .i64 0, .slice none 0 0, .bool false, .slice none 0 0, .slice none 0 0] 27 (0, 0)) := ((keep_box (A := []) _).block w.heap.size (by simp) (by simp)).trans (heap_alloc_new w (.cells #[.int .i64 0, .slice none 0 0, .bool false, .slice none 0 0, .slice none 0 0] 27))
    have h1 : ((w.alloc (.cells #[.int .i64 0, .slice none 0 0, .bool false, .slice none 0 0, .slice none 0 0] 27)).alloc (.cells #[.int .i16 v, .int .i32 0, .int .i16 0, .pointer none, .slice none 0 0, .map none] 114)).heap[w.heap.size + 1]? = some (.cells #[.int .i16 v, .int .i32 0, .int .i16 0, .pointer none, .slice none 0 0, .map none] 114 (0, 0)) := by
      have h := heap_alloc_new (w.alloc (.cells #[.int .i64 0, .slice none 0 0, .bool false, .slice none 0 0, .slice none 0 0] 27)) (.cells #[.int .i16 v, .int .i32 0, .int .i16 0, .pointer none, .slice none 0 0, .map none] 114)
      simpa using h
    have hz0 : ((w.alloc (.cells #[.int .i64 0, .slice none 0 0, .bool false, .slice none 0 0, .slice none 0 0] 27)).alloc (.cells #[.int .i16 v, .int .i32 0, .int .i16 0, .pointer none, .slice none 0 0, .map none] 114)).heap.size = w.heap.size + 2 := by simp
    have hu0 : ((w.alloc (.cells #[.int .i64 0, .slice none 0 0, .bool false, .slice none 0 0, .slice none 0 0] 27)).alloc (.cells #[.int .i16 0, .int .i32 0, .int .i16 0, .pointer none, .slice none 0 0, .map none] 114)).heap[w.heap.size + 1]? = some (.cells #[.int .i16 0, .int .i32 0, .int .i16 0, .pointer none, .slice none 0 0, .map none] 114 (0, 0)) := by
      have h := heap_alloc_new (w.alloc (.cells #[.int .i64 0, .slice none 0 0, .bool false, .slice none 0 0, .slice none 0 0] 27)) (.cells #[.int .i16 0, .int .i32 0, .int .i16 0, .pointer none, .slice none 0 0, .map none] 114)
      simpa using h
    have hc0 := cellOf hu0 0 (.int .i16 0) rfl
    have hf0 := freeOf hu0 0
    clear hu0
    have SV := dcq_setv (v := v) hc0 hf0
    go_upto_region 3 with (first
      | (go_at_call 51; refine (dcq_new _).mono ?_; rintro e w1 ⟨rfl, rfl⟩)
      | (go_at_call 53; go_loud (refine SV.mono ?_; rintro e w1 ⟨rfl, rfl⟩)))
    clear SV hc0 hf0
    generalize ((w.alloc (.cells #[.int .i64 0, .slice none 0 0, .bool false, .slice none 0 0, .slice none 0 0] 27)).alloc (.cells #[.int .i16 v, .int .i32 0, .int .i16 0, .pointer none, .slice none 0 0, .map none] 114)) = W0 at *
    have H0 : Hid _ := h0
    have H1 : Hid _ := h1
    clear h0 h1
    go_wp2_with (first
      | (go_at_call 55; go_loud (refine Calls.mono TL.out ?_; rintro e w4 ⟨c, rfl, hc, k4⟩; obtain ⟨az, ps, al, pl, au, pu, rfl, -⟩ := id hc.cells; have hz4 := k4.size; have r4 := (k4.block (w.heap.size) (by omega) List.not_mem_nil).trans R3.out; have p0 : w4.cell? ⟨w.heap.size, 0, none⟩ = some (.int .i64 0) := cellOf r4 0 _ rfl; have pf0 := freeOf r4 0; have p1 : w4.cell? ⟨w.heap.size, 1, none⟩ = some (.slice none 0 0) := cellOf r4 1 _ rfl; have pf1 := freeOf r4 1; have p2 : w4.cell? ⟨w.heap.size, 2, none⟩ = some (.bool false) := cellOf r4 2 _ rfl; have pf2 := freeOf r4 2; have p3 : w4.cell? ⟨w.heap.size, 3, none⟩ = some (.slice none 0 0) := cellOf r4 3 _ rfl; have pf3 := freeOf r4 3; have p4 : w4.cell? ⟨w.heap.size, 4, none⟩ = some (.slice none 0 0) := cellOf r4 4 _ rfl; have pf4 := freeOf r4 4; have R4 : Hid _ := r4; clear r4))
      | (go_at_call 54; go_loud (refine Calls.mono RF.out ?_; rw [HRD.out]; rintro e w3 ⟨rfl, k3, b3⟩; rw [errV_false]; have hz3 := k3.size; have r3 := (k3.block (w.heap.size) (by omega) (by simp)).trans ((k2.block (w.heap.size) (by omega) (by simp)).trans H0.out); obtain ⟨cc, pt3, cv3, vk3⟩ := VM.seen (b3 rfl) (fun k h => h.2) (Keep.refl _ _); have TL : Hid _ := dcq_tell pt3 vk3 (fun k h => h.2) hsm; have R3 : Hid _ := r3; clear r3 b3 pt3 cv3 vk3 RF))
      | (at_builtin; go_loud (refine app_ob rfl (.const (.slice none 0 0)) (.tmp 13) rfl W0.heap.size (.slice none 0 0) [] rfl (OB.nil _ _) _ l G rfl (hl.keepF (hG.same k0) (fun _ h => h)) (by simp; omega) (Nat.le_refl _) ?_; intro v2 w2 hown hgr; have k2 : Keep [] W0 w2 := (Keep.refl _ _).grown hgr (by simp [Value.ownBlock]); have K2 := k0.trans k2; have hz2 := k2.size; have b2 := (k2.block (w.heap.size + 1) (by omega) (by simp)).trans H1.out; have hB2 : RB w2 (fun k => W0.heap.size ≤ k ∧ k < w2.heap.size) v2 l := hown.rb; have RF : Hid _ := dcq_ReadFrom b2 hB2 (fun k h => h.2) (by omega) (hg.keep K2 List.not_mem_nil) (by omega) hv.1; clear b2)))
    have hr : (((((w4.setCell ⟨w.heap.size, 0, none⟩ (.int .i64 t.n)).setCell ⟨w.heap.size, 1, none⟩ (.slice az t.s.length ps)).setCell ⟨w.heap.size, 2, none⟩ (.bool t.null)).setCell ⟨w.heap.size, 3, none⟩ (.slice al t.l.length pl)).setCell ⟨w.heap.size, 4, none⟩ (.slice au t.u.length pu)).heap[w.heap.size]? = some (.cells #[.int .i64 t.n, .slice az t.s.length ps, .bool t.null, .slice al t.l.length pl, .slice au t.u.length pu] 27 (0, 0)) := (set5 (o := 0) R4.out).1
    have kr : Keep [w.heap.size] w4 (((((w4.setCell ⟨w.heap.size, 0, none⟩ (.int .i64 t.n)).setCell ⟨w.heap.size, 1, none⟩ (.slice az t.s.length ps)).setCell ⟨w.heap.size, 2, none⟩ (.bool t.null)).setCell ⟨w.heap.size, 3, none⟩ (.slice al t.l.length pl)).setCell ⟨w.heap.size, 4, none⟩ (.slice au t.u.length pu)) := (set5 (o := 0) R4.out).2
    clear p0 pf0 p1 pf1 p2 pf2 p3 pf3 p4 pf4
    generalize (((((w4.setCell ⟨w.heap.size, 0, none⟩ (.int .i64 t.n)).setCell ⟨w.heap.size, 1, none⟩ (.slice az t.s.length ps)).setCell ⟨w.heap.size, 2, none⟩ (.bool t.null)).setCell ⟨w.heap.size, 3, none⟩ (.slice al t.l.length pl)).setCell ⟨w.heap.size, 4, none⟩ (.slice au t.u.length pu)) = W7 at *
    have r0 : W7.cell? ⟨w.heap.size, 0, none⟩ = some (.int .i64 t.n) := cellOf hr 0 _ rfl
    have r1 : W7.cell? ⟨w.heap.size, 1, none⟩ = some (.slice az t.s.length ps) := cellOf hr 1 _ rfl
    have r2 : W7.cell? ⟨w.heap.size, 2, none⟩ = some (.bool t.null) := cellOf hr 2 _ rfl
    have r3 : W7.cell? ⟨w.heap.size, 3, none⟩ = some (.slice al t.l.length pl) := cellOf hr 3 _ rfl
    have r4 : W7.cell? ⟨w.heap.size, 4, none⟩ = some (.slice au t.u.length pu) := cellOf hr 4 _ rfl
    have K7 : Keep [] w W7 := (((K2.weaken (B := [w.heap.size, w.heap.size + 1]) (by simp)).trans ((k3.weaken (by simp)).trans ((k4.weaken (by simp)).trans (kr.weaken (by simp)))))).fresh (by simp)
    refine bodyPost_ret (v := .tuple #[.agg #[.int .i64 t.n, .slice az t.s.length ps, .bool t.null, .slice al t.l.length pl, .slice au t.u.length pu], .bool true]) (by simp [results, Tryd.results24, go_sem, r0, r1, r2, r3, r4]) rfl ⟨[.int .i64 t.n, .slice az t.s.length ps, .bool t.null, .slice al t.l.length pl, .slice au t.u.length pu], rfl, ?_, K7⟩
    exact hc.keepF (w' := W7) (G := New (fun _ => False) w W7) (fun k hk => kr.block k hk.2 (by have := hk.1; simp; omega)) (fun k hk => ⟨.inr (by have := hk.1; omega), Nat.lt_of_lt_of_le hk.2 kr.size⟩)
  · rw [if_pos rfl]
    go_enter Tryd.func24, Tryd.ntmps24
    have k0 : Keep [] w ((w.alloc (.cells #[.int .i64 0, .slice none 0 0, .bool false, .slice none 0 0, .slice none 0 0] 27)).alloc (.cells #[.int .i16 v, .int .i32 0, .int .i16 0, .pointer none, .slice none 0 0, .map none] 114)) := (keep_box (A := []) _).alloc _
    have h0 : ((w.alloc (.cells #[.int .i64 0, .slice none 0 0, .bool false, .slice none 0 0, .slice none 0 0] 27)).alloc (.cells #[.int .i16 v, .int .i32 0, .int .i16 0, .pointer none, .slice none 0 0, .map none] 114)).heap[w.heap.size]? = some (.cells #[.int .i64 0, .slice none 0 0, .bool false, .slice none 0 0, .slice none 0 0] 27 (0, 0)) := ((keep_box (A := []) _).block w.heap.size (by simp) (by simp)).trans (heap_alloc_new w (.cells #[.int .i64 0, .slice none 0 0, .bool false, .slice none 0 0, .slice none 0 0] 27))
    have h1 : ((w.alloc (.cells #[.int .i64 0, .slice none 0 0, .bool false, .slice none 0 0, .slice none 0 0] 27)).alloc (.cells #[.int .i16 v, .int .i32 0, .int .i16 0, .pointer none, .slice none 0 0, .map none] 114)).heap[w.heap.size + 1]? = some (.cells #[.int .i16 v, .int .i32 0, .int .i16 0, .pointer none, .slice none 0 0, .map none] 114 (0, 0)) := by
      have h := heap_alloc_new (w.alloc (.cells #[.int .i64 0, .slice none 0 0, .bool false, .slice none 0 0, .slice none 0 0] 27)) (.cells #[.int .i16 v, .int .i32 0, .int .i16 0, .pointer none, .slice none 0 0, .map none] 114)
      simpa using h
    have hz0 : ((w.alloc (.cells #[.int .i64 0, .slice none 0 0, .bool false, .slice none 0 0, .slice none 0 0] 27)).alloc (.cells #[.int .i16 v, .int .i32 0, .int .i16 0, .pointer none, .slice none 0 0, .map none] 114)).heap.size = w.heap.size + 2 := by simp
    have hu0 : ((w.alloc (.cells #[.int .i64 0, .slice none 0 0, .bool false, .slice none 0 0, .slice none 0 0] 27)).alloc (.cells #[.int .i16 0, .int .i32 0, .int .i16 0, .pointer none, .slice none 0 0, .map none] 114)).heap[w.heap.size + 1]? = some (.cells #[.int .i16 0, .int .i32 0, .int .i16 0, .pointer none, .slice none 0 0, .map none] 114 (0, 0)) := by
      have h := heap_alloc_new (w.alloc (.cells #[.int .i64 0, .slice none 0 0, .bool false, .slice none 0 0, .slice none 0 0] 27)) (.cells #[.int .i16 0, .int .i32 0, .int .i16 0, .pointer none, .slice none 0 0, .map none] 114)
      simpa using h
    have hc0 := cellOf hu0 0 (.int .i16 0) rfl
    have hf0 := freeOf hu0 0
    clear hu0
    have SV := dcq_setv (v := v) hc0 hf0
    go_upto_region 3 with (first
      | (go_at_call 51; refine (dcq_new _).mono ?_; rintro e w1 ⟨rfl, rfl⟩)
      | (go_at_call 53; go_loud (refine SV.mono ?_; rintro e w1 ⟨rfl, rfl⟩)))
    clear SV hc0 hf0
    generalize ((w.alloc (.cells #[.int .i64 0, .slice none 0 0, .bool false, .slice none 0 0, .slice none 0 0] 27)).alloc (.cells #[.int .i16 v, .int .i32 0, .int .i16 0, .pointer none, .slice none 0 0, .map none] 114)) = W0 at *
    have H0 : Hid _ := h0
    have H1 : Hid _ := h1
    clear h0 h1
    go_wp2_with (first
      | (go_at_call 54; go_loud (refine Calls.mono RF.out ?_; rw [HRD.out]; rintro e w3 ⟨rfl, k3, b3⟩; rw [errV_true]; have hz3 := k3.size; have r3 := (k3.block (w.heap.size) (by omega) (by simp)).trans ((k2.block (w.heap.size) (by omega) (by simp)).trans H0.out); have p0 : w3.cell? ⟨w.heap.size, 0, none⟩ = some (.int .i64 0) := cellOf r3 0 _ rfl; have pf0 := freeOf r3 0; have p1 : w3.cell? ⟨w.heap.size, 1, none⟩ = some (.slice none 0 0) := cellOf r3 1 _ rfl; have pf1 := freeOf r3 1; have p2 : w3.cell? ⟨w.heap.size, 2, none⟩ = some (.bool false) := cellOf r3 2 _ rfl; have pf2 := freeOf r3 2; have p3 : w3.cell? ⟨w.heap.size, 3, none⟩ = some (.slice none 0 0) := cellOf r3 3 _ rfl; have pf3 := freeOf r3 3; have p4 : w3.cell? ⟨w.heap.size, 4, none⟩ = some (.slice none 0 0) := cellOf r3 4 _ rfl; have pf4 := freeOf r3 4; have R3 : Hid _ := r3; clear r3 b3 RF))
      | (at_builtin; go_loud (refine app_ob rfl (.const (.slice none 0 0)) (.tmp 13) rfl W0.heap.size (.slice none 0 0) [] rfl (OB.nil _ _) _ l G rfl (hl.keepF (hG.same k0) (fun _ h => h)) (by simp; omega) (Nat.le_refl _) ?_; intro v2 w2 hown hgr; have k2 : Keep [] W0 w2 := (Keep.refl _ _).grown hgr (by simp [Value.ownBlock]); have K2 := k0.trans k2; have hz2 := k2.size; have b2 := (k2.block (w.heap.size + 1) (by omega) (by simp)).trans H1.out; have hB2 : RB w2 (fun k => W0.heap.size ≤ k ∧ k < w2.heap.size) v2 l := hown.rb; have RF : Hid _ := dcq_ReadFrom b2 hB2 (fun k h => h.2) (by omega) (hg.keep K2 List.not_mem_nil) (by omega) hv.1; clear b2)))
    have hr : (((((w3.setCell ⟨w.heap.size, 0, none⟩ (.int .i64 0)).setCell ⟨w.heap.size, 1, none⟩ (.slice none 0 0)).setCell ⟨w.heap.size, 2, none⟩ (.bool false)).setCell ⟨w.heap.size, 3, none⟩ (.slice none 0 0)).setCell ⟨w.heap.size, 4, none⟩ (.slice none 0 0)).heap[w.heap.size]? = some (.cells #[.int .i64 0, .slice none 0 0, .bool false, .slice none 0 0, .slice none 0 0] 27 (0, 0)) := (set5 (o := 0) R3.out).1
    have kr : Keep [w.heap.size] w3 (((((w3.setCell ⟨w.heap.size, 0, none⟩ (.int .i64 0)).setCell ⟨w.heap.size, 1, none⟩ (.slice none 0 0)).setCell ⟨w.heap.size, 2, none⟩ (.bool false)).setCell ⟨w.heap.size, 3, none⟩ (.slice none 0 0)).setCell ⟨w.heap.size, 4, none⟩ (.slice none 0 0)) := (set5 (o := 0) R3.out).2
    clear p0 pf0 p1 pf1 p2 pf2 p3 pf3 p4 pf4
    generalize (((((w3.setCell ⟨w.heap.size, 0, none⟩ (.int .i64 0)).setCell ⟨w.heap.size, 1, none⟩ (.slice none 0 0)).setCell ⟨w.heap.size, 2, none⟩ (.bool false)).setCell ⟨w.heap.size, 3, none⟩ (.slice none 0 0)).setCell ⟨w.heap.size, 4, none⟩ (.slice none 0 0)) = W7 at *
    have r0 : W7.cell? ⟨w.heap.size, 0, none⟩ = some (.int .i64 0) := cellOf hr 0 _ rfl
    have r1 : W7.cell? ⟨w.heap.size, 1, none⟩ = some (.slice none 0 0) := cellOf hr 1 _ rfl
    have r2 : W7.cell? ⟨w.heap.size, 2, none⟩ = some (.bool false) := cellOf hr 2 _ rfl
    have r3 : W7.cell? ⟨w.heap.size, 3, none⟩ = some (.slice none 0 0) := cellOf hr 3 _ rfl
    have r4 : W7.cell? ⟨w.heap.size, 4, none⟩ = some (.slice none 0 0) := cellOf hr 4 _ rfl
    have K7 : Keep [] w W7 := (((K2.weaken (B := [w.heap.size, w.heap.size + 1]) (by simp)).trans ((k3.weaken (by simp)).trans (kr.weaken (by simp))))).fresh (by simp)
    refine bodyPost_ret (v := .tuple #[.agg #[.int .i64 0, .slice none 0 0, .bool false, .slice none 0 0, .slice none 0 0], .bool false]) (by simp [results, Tryd.results24, go_sem, r0, r1, r2, r3, r4]) rfl ⟨[.int .i64 0, .slice none 0 0, .bool false, .slice none 0 0, .slice none 0 0], rfl, HT.zero _ _, K7⟩
set_option maxHeartbeats 1600000 in
set_option maxRecDepth 100000 in
theorem dcq_Unsafe {G : Nat → Prop} {p : Addr} {l : Bs} {src : Value} {w : World} {v : Int} {t : T} {rest : Bs} {bad : Bool} (hv : 0 ≤ v ∧ v ≤ 1) (hl : RB w G src l) (hll : l.length ≤ 36000000000000) (hG : There G w) (hg : Gl w p) (hrd : rdPart q_DescribeClientQuotasResponse v (decide ((1 : Int) ≤ v)) (l, false) = (t, (rest, bad))) (hsm : small 1000000 t) :
    Calls Tryd.prog 25 #[.int .i64 v, src] w fun e w' => ∃ c, e = .returned (.tuple #[.agg c.toArray, .bool (!bad)]) ∧ HT w' (New (fun _ => False) w w') (if bad then T.zero else t) c ∧ Keep [] w w' := by
  obtain ⟨ao, cap, rfl⟩ := RS.shape hl
  have hp1 : 0 < w.heap.size := World.block_lt_of_cell? w _ hg
  have hwr : IntKind.i16.wrap v = v := by rw [wrap_i16']; split <;> omega
  have HRD : Hid _ := hrd
  clear hrd
  cases bad
  · rw [if_neg Bool.false_ne_true]
    go_enter Tryd.func25, Tryd.ntmps25
    have k0 : Keep [] w ((w.alloc (.cells #[.int .i64 0, .slice none 0 0, .bool false, .slice none 0 0, .slice none 0 0] 27)).alloc (.cells #[.int .i16 v, .int .i32 0, .int .i16 0, .pointer none, .slice none 0 0, .map none] 114)) := (keep_box (A := []) _).alloc _
    have h0 : ((w.alloc (.cells #[.int .i64 0, .slice none 0 0, .bool false, .slice none 0 0, .slice none 0 0] 27)).alloc (.cells #[.int .i16 v, .int .i32 0, .int .i16 0, .pointer none, .slice none 0 0, .map none] 114)).heap[w.heap.size]? = some (.cells #[.int .i64 0, .slice none 0 0, .bool false, .slice none 0 0, .slice none 0 0] 27 (0, 0)) := ((keep_box (A := []) _).block w.heap.size (by simp) (by simp)).trans (heap_alloc_new w (.cells #[.int .i64 0, .slice none 0 0, .bool false, .slice none 0 0, .slice none 0 0] 27))
    have h1 : ((w.alloc (.cells #[.int .i64 0, .slice none 0 0, .bool false, .slice none 0 0, .slice none 0 0] 27)).alloc (.cells #[.int .i16 v, .int .i32 0, .int .i16 0, .pointer none, .slice none 0 0, .map none] 114)).heap[w.heap.size + 1]? = some (.cells #[.int .i16 v, .int .i32 0, .int .i16 0, .pointer none, .slice none 0 0, .map none] 114 (0, 0)) := by
      have h := heap_alloc_new (w.alloc (.cells #[.int .i64 0, .slice none 0 0, .bool false, .slice none 0 0, .slice none 0 0] 27)) (.cells #[.int .i16 v, .int .i32 0, .int .i16 0, .pointer none, .slice none 0 0, .map none] 114)
      simpa using h
    have hz0 : ((w.alloc (.cells #[.int .i64 0, .slice none 0 0, .bool false, .slice none 0 0, .slice none 0 0] 27)).alloc (.cells #[.int .i16 v, .int .i32 0, .int .i16 0, .pointer none, .slice none 0 0, .map none] 114)).heap.size = w.heap.size + 2 := by simp
    have hu0 : ((w.alloc (.cells #[.int .i64 0, .slice none 0 0, .bool false, .slice none 0 0, .slice none 0 0] 27)).alloc (.cells #[.int .i16 0, .int .i32 0, .int .i16 0, .pointer none, .slice none 0 0, .map none] 114)).heap[w.heap.size + 1]? = some (.cells #[.int .i16 0, .int .i32 0, .int .i16 0, .pointer none, .slice none 0 0, .map none] 114 (0, 0)) := by
      have h := heap_alloc_new (w.alloc (.cells #[.int .i64 0, .slice none 0 0, .bool false, .slice none 0 0, .slice none 0 0] 27)) (.cells #[.int .i16 0, .int .i32 0, .int .i16 0, .pointer none, .slice none 0 0, .map none] 114)
      simpa using h
    have hc0 := cellOf hu0 0 (.int .i16 0) rfl
    have hf0 := freeOf hu0 0
    clear hu0
    have SV := dcq_setv (v := v) hc0 hf0
    go_upto_region 3 with (first
      | (go_at_call 51; refine (dcq_new _).mono ?_; rintro e w1 ⟨rfl, rfl⟩)
      | (go_at_call 53; go_loud (refine SV.mono ?_; rintro e w1 ⟨rfl, rfl⟩)))
    clear SV hc0 hf0
    generalize ((w.alloc (.cells #[.int .i64 0, .slice none 0 0, .bool false, .slice none 0 0, .slice none 0 0] 27)).alloc (.cells #[.int .i16 v, .int .i32 0, .int .i16 0, .pointer none, .slice none 0 0, .map none] 114)) = W0 at *
    have H0 : Hid _ := h0
    have H1 : Hid _ := h1
    clear h0 h1
    go_wp2_with (first
      | (go_at_call 55; go_loud (refine Calls.mono TL.out ?_; rintro e w4 ⟨c, rfl, hc, k4⟩; obtain ⟨az, ps, al, pl, au, pu, rfl, -⟩ := id hc.cells; have hz4 := k4.size; have r4 := (k4.block (w.heap.size) (by omega) List.not_mem_nil).trans R3.out; have p0 : w4.cell? ⟨w.heap.size, 0, none⟩ = some (.int .i64 0) := cellOf r4 0 _ rfl; have pf0 := freeOf r4 0; have p1 : w4.cell? ⟨w.heap.size, 1, none⟩ = some (.slice none 0 0) := cellOf r4 1 _ rfl; have pf1 := freeOf r4 1; have p2 : w4.cell? ⟨w.heap.size, 2, none⟩ = some (.bool false) := cellOf r4 2 _ rfl; have pf2 := freeOf r4 2; have p3 : w4.cell? ⟨w.heap.size, 3, none⟩ = some (.slice none 0 0) := cellOf r4 3 _ rfl; have pf3 := freeOf r4 3; have p4 : w4.cell? ⟨w.heap.size, 4, none⟩ = some (.slice none 0 0) := cellOf r4 4 _ rfl; have pf4 := freeOf r4 4; have R4 : Hid _ := r4; clear r4))
      | (go_at_call 56; go_loud (refine Calls.mono RF.out ?_; rw [HRD.out]; rintro e w3 ⟨rfl, k3, b3⟩; rw [errV_false]; have hz3 := k3.size; have r3 := (k3.block (w.heap.size) (by omega) (by simp)).trans ((k2.block (w.heap.size) (by omega) (by simp)).trans H0.out); obtain ⟨cc, pt3, cv3, vk3⟩ := VM.seen (b3 rfl) (fun k h => h.2) (Keep.refl _ _); have TL : Hid _ := dcq_tell pt3 vk3 (fun k h => h.2) hsm; have R3 : Hid _ := r3; clear r3 b3 pt3 cv3 vk3 RF))
      | (at_builtin; go_loud (refine app_ob rfl (.const (.slice none 0 0)) (.tmp 13) rfl W0.heap.size (.slice none 0 0) [] rfl (OB.nil _ _) _ l G rfl (hl.keepF (hG.same k0) (fun _ h => h)) (by simp; omega) (Nat.le_refl _) ?_; intro v2 w2 hown hgr; have k2 : Keep [] W0 w2 := (Keep.refl _ _).grown hgr (by simp [Value.ownBlock]); have K2 := k0.trans k2; have hz2 := k2.size; have b2 := (k2.block (w.heap.size + 1) (by omega) (by simp)).trans H1.out; have hB2 : RB w2 (fun k => W0.heap.size ≤ k ∧ k < w2.heap.size) v2 l := hown.rb; have RF : Hid _ := dcq_UnsafeReadFrom b2 hB2 (fun k h => h.2) (by omega) (hg.keep K2 List.not_mem_nil) (by omega) hv.1; clear b2)))
    have hr : (((((w4.setCell ⟨w.heap.size, 0, none⟩ (.int .i64 t.n)).setCell ⟨w.heap.size, 1, none⟩ (.slice az t.s.length ps)).setCell ⟨w.heap.size, 2, none⟩ (.bool t.null)).setCell ⟨w.heap.size, 3, none⟩ (.slice al t.l.length pl)).setCell ⟨w.heap.size, 4, none⟩ (.slice au t.u.length pu)).heap[w.heap.size]? = some (.cells #[.int .i64 t.n, .slice az t.s.length ps, .bool t.null, .slice al t.l.length pl, .slice au t.u.length pu] 27 (0, 0)) := (set5 (o := 0) R4.out).1
    have kr : Keep [w.heap.size] w4 (((((w4.setCell ⟨w.heap.size, 0, none⟩ (.int .i64 t.n)).setCell ⟨w.heap.size, 1, none⟩ (.slice az t.s.length ps)).setCell ⟨w.heap.size, 2, none⟩ (.bool t.null)).setCell ⟨w.heap.size, 3, none⟩ (.slice al t.l.length pl)).setCell ⟨w.heap.size, 4, none⟩ (.slice au t.u.length pu)) := (set5 (o := 0) R4.out).2
    clear p0 pf0 p1 pf1 p2 pf2 p3 pf3 p4 pf4
    generalize (((((w4.setCell ⟨w.heap.size, 0, none⟩ (.int .i64 t.n)).setCell ⟨w.heap.size, 1, none⟩ (.slice az t.s.length ps)).setCell ⟨w.heap.size, 2, none⟩ (.bool t.null)).setCell ⟨w.heap.size, 3, none⟩ (.slice al t.l.length pl)).setCell ⟨w.heap.size, 4, none⟩ (.slice au t.u.length pu)) = W7 at *
    have r0 : W7.cell? ⟨w.heap.size, 0, none⟩ = some (.int .i64 t.n) := cellOf hr 0 _ rfl
    have r1 : W7.cell? ⟨w.heap.size, 1, none⟩ = some (.slice az t.s.length ps) := cellOf hr 1 _ rfl
    have r2 : W7.cell? ⟨w.heap.size, 2, none⟩ = some (.bool t.null) := cellOf hr 2 _ rfl
    have r3 : W7.cell? ⟨w.heap.size, 3, none⟩ = some (.slice al t.l.length pl) := cellOf hr 3 _ rfl
    have r4 : W7.cell? ⟨w.heap.size, 4, none⟩ = some (.slice au t.u.length pu) := cellOf hr 4 _ rfl
    have K7 : Keep [] w W7 := (((K2.weaken (B := [w.heap.size, w.heap.size + 1]) (by simp)).trans ((k3.weaken (by simp)).trans ((k4.weaken (by simp)).trans (kr.weaken (by simp)))))).fresh (by simp)
    refine bodyPost_ret (v := .tuple #[.agg #[.int .i64 t.n, .slice az t.s.length ps, .bool t.null, .slice al t.l.length pl, .slice au t.u.length pu], .bool true]) (by simp [results, Tryd.results25, go_sem, r0, r1, r2, r3, r4]) rfl ⟨[.int .i64 t.n, .slice az t.s.length ps, .bool t.null, .slice al t.l.length pl, .slice au t.u.length pu], rfl, ?_, K7⟩
    exact hc.keepF (w' := W7) (G := New (fun _ => False) w W7) (fun k hk => kr.block k hk.2 (by have := hk.1; simp; omega)) (fun k hk => ⟨.inr (by have := hk.1; omega), Nat.lt_of_lt_of_le hk.2 kr.size⟩)
  · rw [if_pos rfl]
    go_enter Tryd.func25, Tryd.ntmps25
    have k0 : Keep [] w ((w.alloc (.cells #[.int .i64 0, .slice none 0 0, .bool false, .slice none 0 0, .slice none 0 0] 27)).alloc (.cells #[.int .i16 v, .int .i32 0, .int .i16 0, .pointer none, .slice none 0 0, .map none] 114)) := (keep_box (A := []) _).alloc _
    have h0 : ((w.alloc (.cells #[.int .i64 0, .slice none 0 0, .bool false, .slice none 0 0, .slice none 0 0] 27)).alloc (.cells #[.int .i16 v, .int .i32 0, .int .i16 0, .pointer none, .slice none 0 0, .map none] 114)).heap[w.heap.size]? = some (.cells #[.int .i64 0, .slice none 0 0, .bool false, .slice none 0 0, .slice none 0 0] 27 (0, 0)) := ((keep_box (A := []) _).block w.heap.size (by simp) (by simp)).trans (heap_alloc_new w (.cells #[.int .i64 0, .slice none 0 0, .bool false, .slice none 0 0, .slice none 0 0] 27))
    have h1 : ((w.alloc (.cells #[.int .i64 0, .slice none 0 0, .bool false, .slice none 0 0, .slice none 0 0] 27)).alloc (.cells #[.int .i16 v, .int .i32 0, .int .i16 0, .pointer none, .slice none 0 0, .map none] 114)).heap[w.heap.size + 1]? = some (.cells #[.int .i16 v, .int .i32 0, .int .i16 0, .pointer none, .slice none 0 0, .map none] 114 (0, 0)) := by
      have h := heap_alloc_new (w.alloc (.cells #[.int .i64 0, .slice none 0 0, .bool false, .slice none 0 0, .slice none 0 0] 27)) (.cells #[.int .i16 v, .int .i32 0, .int .i16 0, .pointer none, .slice none 0 0, .map none] 114)
      simpa using h
    have hz0 : ((w.alloc (.cells #[.int .i64 0, .slice none 0 0, .bool false, .slice none 0 0, .slice none 0 0] 27)).alloc (.cells #[.int .i16 v, .int .i32 0, .int .i16 0, .pointer none, .slice none 0 0, .map none] 114)).heap.size = w.heap.size + 2 := by simp
    have hu0 : ((w.alloc (.cells #[.int .i64 0, .slice none 0 0, .bool false, .slice none 0 0, .slice none 0 0] 27)).alloc (.cells #[.int .i16 0, .int .i32 0, .int .i16 0, .pointer none, .slice none 0 0, .map none] 114)).heap[w.heap.size + 1]? = some (.cells #[.int .i16 0, .int .i32 0, .int .i16 0, .pointer none, .slice none 0 0, .map none] 114 (0, 0)) := by
      have h := heap_alloc_new (w.alloc (.cells #[.int .i64 0, .slice none 0 0, .bool false, .slice none 0 0, .slice none 0 0] 27)) (.cells #[.int .i16 0, .int .i32 0, .int .i16 0, .pointer none, .slice none 0 0, .map none] 114)
      simpa using h
    have hc0 := cellOf hu0 0 (.int .i16 0) rfl
    have hf0 := freeOf hu0 0
    clear hu0
    have SV := dcq_setv (v := v) hc0 hf0
    go_upto_region 3 with (first
      | (go_at_call 51; refine (dcq_new _).mono ?_; rintro e w1 ⟨rfl, rfl⟩)
      | (go_at_call 53; go_loud (refine SV.mono ?_; rintro e w1 ⟨rfl, rfl⟩)))
    clear SV hc0 hf0
    generalize ((w.alloc (.cells #[.int .i64 0, .slice none 0 0, .bool false, .slice none 0 0, .slice none 0 0] 27)).alloc (.cells #[.int .i16 v, .int .i32 0, .int .i16 0, .pointer none, .slice none 0 0, .map none] 114)) = W0 at *
    have H0 : Hid _ := h0
    have H1 : Hid _ := h1
    clear h0 h1
    go_wp2_with (first
      | (go_at_call 56; go_loud (refine Calls.mono RF.out ?_; rw [HRD.out]; rintro e w3 ⟨rfl, k3, b3⟩; rw [errV_true]; have hz3 := k3.size; have r3 := (k3.block (w.heap.size) (by omega) (by simp)).trans ((k2.block (w.heap.size) (by omega) (by simp)).trans H0.out); have p0 : w3.cell? ⟨w.heap.size, 0, none⟩ = some (.int .i64 0) := cellOf r3 0 _ rfl; have pf0 := freeOf r3 0; have p1 : w3.cell? ⟨w.heap.size, 1, none⟩ = some (.slice none 0 0) := cellOf r3 1 _ rfl; have pf1 := freeOf r3 1; have p2 : w3.cell? ⟨w.heap.size, 2, none⟩ = some (.bool false) := cellOf r3 2 _ rfl; have pf2 := freeOf r3 2; have p3 : w3.cell? ⟨w.heap.size, 3, none⟩ = some (.slice none 0 0) := cellOf r3 3 _ rfl; have pf3 := freeOf r3 3; have p4 : w3.cell? ⟨w.heap.size, 4, none⟩ = some (.slice none 0 0) := cellOf r3 4 _ rfl; have pf4 := freeOf r3 4; have R3 : Hid _ := r3; clear r3 b3 RF))
      | (at_builtin; go_loud (refine app_ob rfl (.const (.slice none 0 0)) (.tmp 13) rfl W0.heap.size (.slice none 0 0) [] rfl (OB.nil _ _) _ l G rfl (hl.keepF (hG.same k0) (fun _ h => h)) (by simp; omega) (Nat.le_refl _) ?_; intro v2 w2 hown hgr; have k2 : Keep [] W0 w2 := (Keep.refl _ _).grown hgr (by simp [Value.ownBlock]); have K2 := k0.trans k2; have hz2 := k2.size; have b2 := (k2.block (w.heap.size + 1) (by omega) (by simp)).trans H1.out; have hB2 : RB w2 (fun k => W0.heap.size ≤ k ∧ k < w2.heap.size) v2 l := hown.rb; have RF : Hid _ := dcq_UnsafeReadFrom b2 hB2 (fun k h => h.2) (by omega) (hg.keep K2 List.not_mem_nil) (by omega) hv.1; clear b2)))
    have hr : (((((w3.setCell ⟨w.heap.size, 0, none⟩ (.int .i64 0)).setCell ⟨w.heap.size, 1, none⟩ (.slice none 0 0)).setCell ⟨w.heap.size, 2, none⟩ (.bool false)).setCell ⟨w.heap.size, 3, none⟩ (.slice none 0 0)).setCell ⟨w.heap.size, 4, none⟩ (.slice none 0 0)).heap[w.heap.size]? = some (.cells #[.int .i64 0, .slice none 0 0, .bool false, .slice none 0 0, .slice none 0 0] 27 (0, 0)) := (set5 (o := 0) R3.out).1
    have kr : Keep [w.heap.size] w3 (((((w3.setCell ⟨w.heap.size, 0, none⟩ (.int .i64 0)).setCell ⟨w.heap.size, 1, none⟩ (.slice none 0 0)).setCell ⟨w.heap.size, 2, none⟩ (.bool false)).setCell ⟨w.heap.size, 3, none⟩ (.slice none 0 0)).setCell ⟨w.heap.size, 4, none⟩ (.slice none 0 0)) := (set5 (o := 0) R3.out).2
    clear p0 pf0 p1 pf1 p2 pf2 p3 pf3 p4 pf4
    generalize (((((w3.setCell ⟨w.heap.size, 0, none⟩ (.int .i64 0)).setCell ⟨w.heap.size, 1, none⟩ (.slice none 0 0)).setCell ⟨w.heap.size, 2, none⟩ (.bool false)).setCell ⟨w.heap.size, 3, none⟩ (.slice none 0 0)).setCell ⟨w.heap.size, 4, none⟩ (.slice none 0 0)) = W7 at *
    have r0 : W7.cell? ⟨w.heap.size, 0, none⟩ = some (.int .i64 0) := cellOf hr 0 _ rfl
    have r1 : W7.cell? ⟨w.heap.size, 1, none⟩ = some (.slice none 0 0) := cellOf hr 1 _ rfl
    have r2 : W7.cell? ⟨w.heap.size, 2, none⟩ = some (.bool false) := cellOf hr 2 _ rfl
    have r3 : W7.cell? ⟨w.heap.size, 3, none⟩ = some (.slice none 0 0) := cellOf hr 3 _ rfl
    have r4 : W7.cell? ⟨w.heap.size, 4, none⟩ = some (.slice none 0 0) := cellOf hr 4 _ rfl
    have K7 : Keep [] w W7 := (((K2.weaken (B := [w.heap.size, w.heap.size + 1]) (by simp)).trans ((k3.weaken (by simp)).trans (kr.weaken (by simp))))).fresh (by simp)
    refine bodyPost_ret (v := .tuple #[.agg #[.int .i64 0, .slice none 0 0, .bool false, .slice none 0 0, .slice none 0 0], .bool false]) (by simp [results, Tryd.results25, go_sem, r0, r1, r2, r3, r4]) rfl ⟨[.int .i64 0, .slice none 0 0, .bool false, .slice none 0 0, .slice none 0 0], rfl, HT.zero _ _, K7⟩
end Go.Proofs.YtodbdecpacdgiaaDoor
/-
  DescribeClientQuotasResponse: the law's function: both ways of reading tell the same.
-/
namespace Go.Proofs.YtodbdecpacdgiaaDoor
open Go.ChangeShapes Go.WideShapes Go.ChangeAt Go.RowKit

theorem dcq_narrowq : narrows 1000000 q_DescribeClientQuotasResponse ∧ q_DescribeClientQuotasResponse.length ≤ 1000000 := by
  simp [q_DescribeClientQuotasResponse, narrows, narrow, q_DescribeClientQuotasResponseEntryEntity, q_DescribeClientQuotasResponseEntryValue, q_DescribeClientQuotasResponseEntry]
set_option maxHeartbeats 1600000 in
set_option maxRecDepth 100000 in
theorem dcq_law {G : Nat → Prop} {p : Addr} {l : Bs} {n : Int} {src : Value} {w : World} (hn : 0 ≤ n ∧ n ≤ 255) (hl : RB w G src l) (hG : There G w) (hg : Gl w p) :
    Calls Tryd.prog 7 #[.int .u8 n, src] w fun e w' => e = .returned (.bool true) ∧ Keep [] w w' := by
  obtain ⟨ao, cap, rfl⟩ := RS.shape hl
  have hv : 0 ≤ n % (1 + 1) ∧ n % (1 + 1) ≤ 1 := by omega
  have VA := fun W => version_any hn (m := 1) (by omega) W
  by_cases h1 : 2147483647 < l.length
  · go_enter Tryd.func7, Tryd.ntmps7
    go_wp2_with fail
    go_ret
    exact ⟨rfl, Keep.refl _ _⟩
  by_cases h2 : 1000 < l.length
  · go_enter Tryd.func7, Tryd.ntmps7
    go_wp2_with (go_at_call 23; refine (dcq_Max _).mono ?_; rintro e w1 ⟨rfl, k1⟩)
    go_ret
    exact ⟨rfl, k1⟩
  have hll : l.length ≤ 36000000000000 := by omega
  generalize n % (1 + 1) = v at *
  obtain ⟨⟨t, rest, bad⟩, hrd⟩ : ∃ z, rdPart q_DescribeClientQuotasResponse v (decide ((1 : Int) ≤ v)) (l, false) = z := ⟨_, rfl⟩
  have hsm : small 1000000 t := by
    have h := (rdPart_fine (N := 1000000) (by omega) q_DescribeClientQuotasResponse v (decide ((1 : Int) ≤ v)) dcq_narrowq.2 dcq_narrowq.1 (l, false) (by simp; omega)).1
    rw [hrd] at h
    exact h
  have HRD : Hid _ := hrd
  clear hrd
  go_enter Tryd.func7, Tryd.ntmps7
  cases bad
  · go_wp2_with (first
      | (go_at_call 23; refine (dcq_Max _).mono ?_; rintro e w1 ⟨rfl, k1⟩)
      | (go_at_call 10; refine (VA _).mono ?_; rintro e wv ⟨rfl, rfl⟩)
      | (go_at_call 24; go_loud (refine (dcq_Tell hv (hl.keepF (hG.same k1) (fun _ h => h)) hll (hG.keep k1) (hg.keep k1 List.not_mem_nil) HRD.out hsm).mono ?_; rintro e w4 ⟨c4, rfl, hc4, k4⟩; rw [if_neg Bool.false_ne_true] at hc4; have K4 := k1.trans k4; obtain ⟨a41, p41, a42, p42, a43, p43, rfl, -⟩ := id hc4.cells))
      | (go_at_call 25; go_loud (refine (dcq_Unsafe hv (hl.keepF (hG.same (K4.alloc _)) (fun _ h => h)) hll (hG.keep (K4.alloc _)) (hg.keep (K4.alloc _) List.not_mem_nil) HRD.out hsm).mono ?_; rintro e w5 ⟨c5, rfl, hc5, k5⟩; rw [if_neg Bool.false_ne_true] at hc5; have K5 := (K4.alloc _).trans k5; obtain ⟨a51, p51, a52, p52, a53, p53, rfl, -⟩ := id hc5.cells)))
    refine law_end (o4 := .cells #[.int .i64 t.n, .slice a41 t.s.length p41, .bool t.null, .slice a42 t.l.length p42, .slice a43 t.u.length p43] 27) (o5 := .cells #[.int .i64 t.n, .slice a51 t.s.length p51, .bool t.null, .slice a52 t.l.length p52, .slice a53 t.u.length p53] 27) K5 k5 hc4 hc5 (fun k h => h.2) (fun k h => h.2) ?_
    intro W K6 hb5 hb7 h4 h5 g4 g5
    clear hc4 hc5 K5 k5 hl hG hg K4 k4 VA k1
    generalize w4.heap.size = b5 at *
    generalize w5.heap.size = b7 at *
    have hS := TTS.of hb5 hb7
    have HB5 : Hid _ := hb5
    have HB7 : Hid _ := hb7
    clear hb5 hb7
    have l5 := World.heap_lt HB5.out
    have l7 := World.heap_lt HB7.out
    go_region_held3 (fun w' => w'.cell? ⟨b5, 0, none⟩ = some (.int .i64 t.n) ∧ w'.cell? ⟨b5, 1, none⟩ = some (.slice a41 t.s.length p41) ∧ w'.cell? ⟨b5, 2, none⟩ = some (.bool t.null) ∧ w'.cell? ⟨b5, 3, none⟩ = some (.slice a42 t.l.length p42) ∧ w'.cell? ⟨b5, 4, none⟩ = some (.slice a43 t.u.length p43) ∧ w'.cell? ⟨b7, 0, none⟩ = some (.int .i64 t.n) ∧ w'.cell? ⟨b7, 1, none⟩ = some (.slice a51 t.s.length p51) ∧ w'.cell? ⟨b7, 2, none⟩ = some (.bool t.null) ∧ w'.cell? ⟨b7, 3, none⟩ = some (.slice a52 t.l.length p52) ∧ w'.cell? ⟨b7, 4, none⟩ = some (.slice a53 t.u.length p53)) (exact hS) (first
      | (go_at_call 13; (refine (gotSaid t hsm _ _ wa (h5.keepF (g5.same kA) (fun _ h => h)) (g5.keep kA)).mono ?_; rintro e wb ⟨cb, rfl, hb, kb⟩; have kB : Keep [] W wb := kA.trans kb; obtain ⟨a71, p71, a72, p72, a73, p73, rfl, -⟩ := id hb.cells; have hS := TTS.of ((kB.block _ l5 List.not_mem_nil).trans HB5.out) ((kB.block _ l7 List.not_mem_nil).trans HB7.out)))
      | (go_at_call 13; go_loud (refine (gotSaid t hsm _ _ W.drew (h4.keepF (g4.same (Keep.refl [] W).drew) (fun _ h => h)) (g4.keep (Keep.refl [] W).drew)).mono ?_; rintro e wa ⟨ca, rfl, ha, ka⟩; have kA : Keep [] W wa := (Keep.refl [] W).drew.trans ka; obtain ⟨a61, p61, a62, p62, a63, p63, rfl, -⟩ := id ha.cells; have hS := TTS.of ((kA.block _ l5 List.not_mem_nil).trans HB5.out) ((kA.block _ l7 List.not_mem_nil).trans HB7.out)))
      | (go_at_call 12; go_loud (refine (sameSaid t _ _ _ _ wb (ha.keepF (fun k hk => kb.block k hk.2 List.not_mem_nil) (fun _ h => h)) hb (fun k hk => Nat.lt_of_lt_of_le hk.2 kb.size) (fun k hk => hk.2)).mono ?_; rintro e wc ⟨rfl, kc⟩; have kC : Keep [] W wc := kB.trans kc; have hS := TTS.of ((kC.block _ l5 List.not_mem_nil).trans HB5.out) ((kC.block _ l7 List.not_mem_nil).trans HB7.out))))
    all_goals go_wp2
    all_goals go_ret
    all_goals exact ⟨rfl, K6.trans kC⟩
  · go_wp2_with (first
      | (go_at_call 23; refine (dcq_Max _).mono ?_; rintro e w1 ⟨rfl, k1⟩)
      | (go_at_call 10; refine (VA _).mono ?_; rintro e wv ⟨rfl, rfl⟩)
      | (go_at_call 24; go_loud (refine (dcq_Tell hv (hl.keepF (hG.same k1) (fun _ h => h)) hll (hG.keep k1) (hg.keep k1 List.not_mem_nil) HRD.out hsm).mono ?_; rintro e w4 ⟨c4, rfl, hc4, k4⟩; have K4 := k1.trans k4; obtain ⟨a41, p41, a42, p42, a43, p43, rfl, -⟩ := id hc4.cells))
      | (go_at_call 25; go_loud (refine (dcq_Unsafe hv (hl.keepF (hG.same (K4.alloc _)) (fun _ h => h)) hll (hG.keep (K4.alloc _)) (hg.keep (K4.alloc _) List.not_mem_nil) HRD.out hsm).mono ?_; rintro e w5 ⟨c5, rfl, hc5, k5⟩; have K5 := (K4.alloc _).trans k5; obtain ⟨a51, p51, a52, p52, a53, p53, rfl, -⟩ := id hc5.cells)))
    go_region
    all_goals go_wp2
    all_goals go_ret
    all_goals exact ⟨rfl, (K5.alloc _).drew⟩
end Go.Proofs.YtodbdecpacdgiaaDoor
