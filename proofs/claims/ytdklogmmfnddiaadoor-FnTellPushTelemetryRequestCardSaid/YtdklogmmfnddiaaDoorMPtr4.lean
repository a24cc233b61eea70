/-
  PushTelemetryRequest: its doors for reading and telling.
-/
import Derived.Test.YtdklogmmfnddiaaDoorMPtr2
import Derived.Test.YtdklogmmfnddiaaDoorMPtr3
import Derived.Test.YtdklogmmfnddiaaDoorMB19
import Derived.Deep.Cut
namespace Go.Proofs.YtdklogmmfnddiaaDoor
open Go.ChangeShapes Go.WideShapes Go.ChangeAt Go.RowKit

theorem ptr_readFrom {G : Nat → Prop} {b : Nat} {p : Addr} {l : Bs} {src : Value} {w : World} {ver : Int} (hb : w.heap[b]? = some (.cells #[.int .i16 ver, .int .u8 0, .int .u8 0, .int .u8 0, .int .u8 0, .int .u8 0, .int .u8 0, .int .u8 0, .int .u8 0, .int .u8 0, .int .u8 0, .int .u8 0, .int .u8 0, .int .u8 0, .int .u8 0, .int .u8 0, .int .u8 0, .int .i32 0, .bool false, .int .i8 0, .slice none 0 0, .map none] 91 (0, 0))) (hl : RB w G src l) (hG : There G w) (hGb : ¬ G b) (hg : Gl w p) (hp : b ≠ 1) (hv0 : 0 ≤ ver) :
    Calls Tryd.prog 49 #[.pointer (some ⟨b, 0, none⟩), src, .bool false] w fun e w' => e = .returned (errV p (rdPart q_PushTelemetryRequest ver true (l, false)).2.2) ∧ Keep [b] w w' ∧ ((rdPart q_PushTelemetryRequest ver true (l, false)).2.2 = false → VM w' (New G w w') b q_PushTelemetryRequest 91 ver (rdPart q_PushTelemetryRequest ver true (l, false)).1) := by
  exact ptr_read_0n hb hl hG hGb hg hp hv0  false
theorem ptr_ReadFrom {G : Nat → Prop} {b : Nat} {p : Addr} {l : Bs} {src : Value} {w : World} {ver : Int} (hb : w.heap[b]? = some (.cells #[.int .i16 ver, .int .u8 0, .int .u8 0, .int .u8 0, .int .u8 0, .int .u8 0, .int .u8 0, .int .u8 0, .int .u8 0, .int .u8 0, .int .u8 0, .int .u8 0, .int .u8 0, .int .u8 0, .int .u8 0, .int .u8 0, .int .u8 0, .int .i32 0, .bool false, .int .i8 0, .slice none 0 0, .map none] 91 (0, 0))) (hl : RB w G src l) (hG : There G w) (hGb : ¬ G b) (hg : Gl w p) (hp : b ≠ 1) (hv0 : 0 ≤ ver) :
    Calls Tryd.prog 31 #[.pointer (some ⟨b, 0, none⟩), src] w fun e w' => e = .returned (errV p (rdPart q_PushTelemetryRequest ver true (l, false)).2.2) ∧ Keep [b] w w' ∧ ((rdPart q_PushTelemetryRequest ver true (l, false)).2.2 = false → VM w' (New G w w') b q_PushTelemetryRequest 91 ver (rdPart q_PushTelemetryRequest ver true (l, false)).1) := by
  have RF := ptr_readFrom hb hl hG hGb hg hp hv0
  clear hb
  go_enter Tryd.func31, Tryd.ntmps31
  go_wp2_with (go_at_call 49; refine RF.mono ?_; rintro e w1 ⟨rfl, h1⟩)
  go_ret
  exact ⟨rfl, h1⟩
theorem ptr_new (w : World) : Calls Tryd.prog 28 #[] w fun e w' => e = .returned (.pointer (some ⟨w.heap.size, 0, none⟩)) ∧ (w.alloc (.cells #[.int .i16 0, .int .u8 0, .int .u8 0, .int .u8 0, .int .u8 0, .int .u8 0, .int .u8 0, .int .u8 0, .int .u8 0, .int .u8 0, .int .u8 0, .int .u8 0, .int .u8 0, .int .u8 0, .int .u8 0, .int .u8 0, .int .u8 0, .int .i32 0, .bool false, .int .i8 0, .slice none 0 0, .map none] 91)) = w' := by
  go_enter Tryd.func28, Tryd.ntmps28
  go_wp2_with (go_at_call 48; refine (d_PushTelemetryRequest _ _).mono ?_; rintro e w1 ⟨rfl, rfl⟩)
  go_ret
  exact ⟨rfl, rfl⟩
theorem ptr_max (w : World) (x : Value) : Calls Tryd.prog 29 #[x] w fun e w' => e = .returned (.int .i16 0) ∧ w = w' := by
  go_enter Tryd.func29, Tryd.ntmps29
  go_wp2
  go_ret
  exact ⟨rfl, rfl⟩
theorem ptr_Max (w : World) : Calls Tryd.prog 13 #[] w fun e w' => e = .returned (.int .i64 0) ∧ Keep [] w w' := by
  go_enter Tryd.func13, Tryd.ntmps13
  go_wp2_with (first
    | (go_at_call 28; refine (ptr_new _).mono ?_; rintro e w1 ⟨rfl, rfl⟩)
    | (go_at_call 29; refine (ptr_max _ _).mono ?_; rintro e w2 ⟨rfl, rfl⟩))
  go_ret
  exact ⟨rfl, keep_box _⟩
theorem ptr_setv {w : World} {b : Nat} {v : Int} {x : Value} (h : w.cell? ⟨b, 0, none⟩ = some x) (hf : w.frozen? ⟨b, 0, none⟩ = false) : Calls Tryd.prog 30 #[.pointer (some ⟨b, 0, none⟩), .int .i16 v] w fun e w' => e = .returned (.tuple #[]) ∧ w.setCell ⟨b, 0, none⟩ (.int .i16 v) = w' := by
  go_enter Tryd.func30, Tryd.ntmps30
  go_wp2
  refine bodyPost_end (v := .tuple #[]) (by simp [results, Tryd.results30, go_sem]) rfl ⟨rfl, rfl⟩
set_option maxHeartbeats 1600000 in
set_option maxRecDepth 100000 in
theorem ptr_Tell {G : Nat → Prop} {p : Addr} {l : Bs} {src : Value} {w : World} {v : Int} {t : T} {rest : Bs} {bad : Bool} (hv : 0 ≤ v ∧ v ≤ 0) (hl : RB w G src l) (hll : l.length ≤ 36000000000000) (hG : There G w) (hg : Gl w p) (hrd : rdPart q_PushTelemetryRequest v true (l, false) = (t, (rest, bad))) (hsm : small 1000000 t) :
    Calls Tryd.prog 15 #[.int .i64 v, src] w fun e w' => ∃ c, e = .returned (.tuple #[.agg c.toArray, .bool (!bad)]) ∧ HT w' (New (fun _ => False) w w') (if bad then T.zero else t) c ∧ Keep [] w w' := by
  obtain ⟨ao, cap, rfl⟩ := RS.shape hl
  have hp1 : 1 < w.heap.size := World.block_lt_of_cell? w _ hg
  have hwr : IntKind.i16.wrap v = v := by rw [wrap_i16']; split <;> omega
  have HRD : Hid _ := hrd
  clear hrd
  cases bad
  · rw [if_neg Bool.false_ne_true]
    go_enter Tryd.func15, Tryd.ntmps15
    have k0 : Keep [] w ((w.alloc (.cells #[.int .i64 0, .slice none 0 0, .bool false, .slice none 0 0, .slice none 0 0] 37)).alloc (.cells #[.int .i16 v, .int .u8 0, .int .u8 0, .int .u8 0, .int .u8 0, .int .u8 0, .int .u8 0, .int .u8 0, .int .u8 0, .int .u8 0, .int .u8 0, .int .u8 0, .int .u8 0, .int .u8 0, .int .u8 0, .int .u8 0, .int .u8 0, .int .i32 0, .bool false, .int .i8 0, .slice none 0 0, .map none] 91)) := (keep_box (A := []) _).alloc _
    have h0 : ((w.alloc (.cells #[.int .i64 0, .slice none 0 0, .bool false, .slice none 0 0, .slice none 0 0] 37)).alloc (.cells #[.int .i16 v, .int .u8 0, .int .u8 0, .int .u8 0, .int .u8 0, .int .u8 0, .int .u8 0, .int .u8 0, .int .u8 0, .int .u8 0, .int .u8 0, .int .u8 0, .int .u8 0, .int .u8 0, .int .u8 0, .int .u8 0, .int .u8 0, .int .i32 0, .bool false, .int .i8 0, .slice none 0 0, .map none] 91)).heap[w.heap.size]? = some (.cells #[.int .i64 0, .slice none 0 0, .bool false, .slice none 0 0, .slice none 0 0] 37 (0, 0)) := ((keep_box (A := []) _).block w.heap.size (by simp) (by simp)).trans (heap_alloc_new w (.cells #[.int .i64 0, .slice none 0 0, .bool false, .slice none 0 0, .slice none 0 0] 37))
    have h1 : ((w.alloc (.cells #[.int .i64 0, .slice none 0 0, .bool false, .slice none 0 0, .slice none 0 0] 37)).alloc (.cells #[.int .i16 v, .int .u8 0, .int .u8 0, .int .u8 0, .int .u8 0, .int .u8 0, .int .u8 0, .int .u8 0, .int .u8 0, .int .u8 0, .int .u8 0, .int .u8 0, .int .u8 0, .int .u8 0, .int .u8 0, .int .u8 0, .int .u8 0, .int .i32 0, .bool false, .int .i8 0, .slice none 0 0, .map none] 91)).heap[w.heap.size + 1]? = some (.cells #[.int .i16 v, .int .u8 0, .int .u8 0, .int .u8 0, .int .u8 0, .int .u8 0, .int .u8 0, .int .u8 0, .int .u8 0, .int .u8 0, .int .u8 0, .int .u8 0, .int .u8 0, .int .u8 0, .int .u8 0, .int .u8 0, .int .u8 0, .int .i32 0, .bool false, .int .i8 0, .slice none 0 0, .map none] 91 (0, 0)) := by
      have h := heap_alloc_new (w.alloc (.cells #[.int .i64 0, .slice none 0 0, .bool false, .slice none 0 0, .slice none 0 0] 37)) (.cells #[.int .i16 v, .int .u8 0, .int .u8 0, .int .u8 0, .int .u8 0, .int .u8 0, .int .u8 0, .int .u8 0, .int .u8 0, .int .u8 0, .int .u8 0, .int .u8 0, .int .u8 0, .int .u8 0, .int .u8 0, .int .u8 0, .int .u8 0, .int .i32 0, .bool false, .int .i8 0, .slice none 0 0, .map none] 91)
      simpa using h
    have hz0 : ((w.alloc (.cells #[.int .i64 0, .slice none 0 0, .bool false, .slice none 0 0, .slice none 0 0] 37)).alloc (.cells #[.int .i16 v, .int .u8 0, .int .u8 0, .int .u8 0, .int .u8 0, .int .u8 0, .int .u8 0, .int .u8 0, .int .u8 0, .int .u8 0, .int .u8 0, .int .u8 0, .int .u8 0, .int .u8 0, .int .u8 0, .int .u8 0, .int .u8 0, .int .i32 0, .bool false, .int .i8 0, .slice none 0 0, .map none] 91)).heap.size = w.heap.size + 2 := by simp
    have hu0 : ((w.alloc (.cells #[.int .i64 0, .slice none 0 0, .bool false, .slice none 0 0, .slice none 0 0] 37)).alloc (.cells #[.int .i16 0, .int .u8 0, .int .u8 0, .int .u8 0, .int .u8 0, .int .u8 0, .int .u8 0, .int .u8 0, .int .u8 0, .int .u8 0, .int .u8 0, .int .u8 0, .int .u8 0, .int .u8 0, .int .u8 0, .int .u8 0, .int .u8 0, .int .i32 0, .bool false, .int .i8 0, .slice none 0 0, .map none] 91)).heap[w.heap.size + 1]? = some (.cells #[.int .i16 0, .int .u8 0, .int .u8 0, .int .u8 0, .int .u8 0, .int .u8 0, .int .u8 0, .int .u8 0, .int .u8 0, .int .u8 0, .int .u8 0, .int .u8 0, .int .u8 0, .int .u8 0, .int .u8 0, .int .u8 0, .int .u8 0, .int .i32 0, .bool false, .int .i8 0, .slice none 0 0, .map none] 91 (0, 0)) := by
      have h := heap_alloc_new (w.alloc (.cells #[.int .i64 0, .slice none 0 0, .bool false, .slice none 0 0, .slice none 0 0] 37)) (.cells #[.int .i16 0, .int .u8 0, .int .u8 0, .int .u8 0, .int .u8 0, .int .u8 0, .int .u8 0, .int .u8 0, .int .u8 0, .int .u8 0, .int .u8 0, .int .u8 0, .int .u8 0, .int .u8 0, .int .u8 0, .int .u8 0, .int .u8 0, .int .i32 0, .bool false, .int .i8 0, .slice none 0 0, .map none] 91)
      simpa using h
    have hc0 := cellOf hu0 0 (.int .i16 0) rfl
    have hf0 := freeOf hu0 0
    clear hu0
    have SV := ptr_setv (v := v) hc0 hf0
    go_upto_region 3 with (first
      | (go_at_call 28; refine (ptr_new _).mono ?_; rintro e w1 ⟨rfl, rfl⟩)
      | (go_at_call 30; go_loud (refine SV.mono ?_; rintro e w1 ⟨rfl, rfl⟩)))
    clear SV hc0 hf0
    generalize ((w.alloc (.cells #[.int .i64 0, .slice none 0 0, .bool false, .slice none 0 0, .slice none 0 0] 37)).alloc (.cells #[.int .i16 v, .int .u8 0, .int .u8 0, .int .u8 0, .int .u8 0, .int .u8 0, .int .u8 0, .int .u8 0, .int .u8 0, .int .u8 0, .int .u8 0, .int .u8 0, .int .u8 0, .int .u8 0, .int .u8 0, .int .u8 0, .int .u8 0, .int .i32 0, .bool false, .int .i8 0, .slice none 0 0, .map none] 91)) = W0 at *
    have H0 : Hid _ := h0
    have H1 : Hid _ := h1
    clear h0 h1
    go_wp2_with (first
      | (go_at_call 32; go_loud (refine Calls.mono TL.out ?_; rintro e w4 ⟨c, rfl, hc, k4⟩; obtain ⟨az, ps, al, pl, au, pu, rfl, -⟩ := id hc.cells; have hz4 := k4.size; have r4 := (k4.block (w.heap.size) (by omega) List.not_mem_nil).trans R3.out; have p0 : w4.cell? ⟨w.heap.size, 0, none⟩ = some (.int .i64 0) := cellOf r4 0 _ rfl; have pf0 := freeOf r4 0; have p1 : w4.cell? ⟨w.heap.size, 1, none⟩ = some (.slice none 0 0) := cellOf r4 1 _ rfl; have pf1 := freeOf r4 1; have p2 : w4.cell? ⟨w.heap.size, 2, none⟩ = some (.bool false) := cellOf r4 2 _ rfl; have pf2 := freeOf r4 2; have p3 : w4.cell? ⟨w.heap.size, 3, none⟩ = some (.slice none 0 0) := cellOf r4 3 _ rfl; have pf3 := freeOf r4 3; have p4 : w4.cell? ⟨w.heap.size, 4, none⟩ = some (.slice none 0 0) := cellOf r4 4 _ rfl; have pf4 := freeOf r4 4; have R4 : Hid _ := r4; clear r4))
      | (go_at_call 31; go_loud (refine Calls.mono RF.out ?_; rw [HRD.out]; rintro e w3 ⟨rfl, k3, b3⟩; rw [errV_false]; have hz3 := k3.size; have r3 := (k3.block (w.heap.size) (by omega) (by simp)).trans ((k2.block (w.heap.size) (by omega) (by simp)).trans H0.out); obtain ⟨cc, pt3, cv3, vk3⟩ := VM.seen (b3 rfl) (fun k h => h.2) (Keep.refl _ _); have TL : Hid _ := ptr_tell pt3 vk3 (fun k h => h.2) hsm; have R3 : Hid _ := r3; clear r3 b3 pt3 cv3 vk3 RF))
      | (at_builtin; go_loud (refine app_ob rfl (.const (.slice none 0 0)) (.tmp 13) rfl W0.heap.size (.slice none 0 0) [] rfl (OB.nil _ _) _ l G rfl (hl.keepF (hG.same k0) (fun _ h => h)) (by simp; omega) (Nat.le_refl _) ?_; intro v2 w2 hown hgr; have k2 : Keep [] W0 w2 := (Keep.refl _ _).grown hgr (by simp [Value.ownBlock]); have K2 := k0.trans k2; have hz2 := k2.size; have b2 := (k2.block (w.heap.size + 1) (by omega) (by simp)).trans H1.out; have hB2 : RB w2 (fun k => W0.heap.size ≤ k ∧ k < w2.heap.size) v2 l := hown.rb; have RF : Hid _ := ptr_ReadFrom b2 hB2 (fun k h => h.2) (by omega) (hg.keep K2 List.not_mem_nil) (by omega) hv.1; clear b2)))
    have hr : (((((w4.setCell ⟨w.heap.size, 0, none⟩ (.int .i64 t.n)).setCell ⟨w.heap.size, 1, none⟩ (.slice az t.s.length ps)).setCell ⟨w.heap.size, 2, none⟩ (.bool t.null)).setCell ⟨w.heap.size, 3, none⟩ (.slice al t.l.length pl)).setCell ⟨w.heap.size, 4, none⟩ (.slice au t.u.length pu)).heap[w.heap.size]? = some (.cells #[.int .i64 t.n, .slice az t.s.length ps, .bool t.null, .slice al t.l.length pl, .slice au t.u.length pu] 37 (0, 0)) := (set5 (o := 0) R4.out).1
    have kr : Keep [w.heap.size] w4 (((((w4.setCell ⟨w.heap.size, 0, none⟩ (.int .i64 t.n)).setCell ⟨w.heap.size, 1, none⟩ (.slice az t.s.length ps)).setCell ⟨w.heap.size, 2, none⟩ (.bool t.null)).setCell ⟨w.heap.size, 3, none⟩ (.slice al t.l.length pl)).setCell ⟨w.heap.size, 4, none⟩ (.slice au t.u.length pu)) := (set5 (o := 0) R4.out).2
    clear p0 pf0 p1 pf1 p2 pf2 p3 pf3 p4 pf4
    generalize (((((w4.setCell ⟨w.heap.size, 0, none⟩ (.int .i64 t.n)).setCell ⟨w.heap.size, 1, none⟩ (.slice az t.s.length ps)).setCell ⟨w.heap.size, 2, none⟩ (.bool t.null)).setCell ⟨w.heap.size, 3, none⟩ (.slice al t.l.length pl)).setCell ⟨w.heap.size, 4, none⟩ (.slice au t.u.length pu)) = W7 at *
    have r0 : W7.cell? ⟨w.heap.size, 0, none⟩ = some (.int .i64 t.n) := cellOf hr 0 _ rfl
    have r1 : W7.cell? ⟨w.heap.size, 1, none⟩ = some (.slice az t.s.length ps) := cellOf hr 1 _ rfl
    have r2 : W7.cell? ⟨w.heap.size, 2, none⟩ = some (.bool t.null) := cellOf hr 2 _ rfl
    have r3 : W7.cell? ⟨w.heap.size, 3, none⟩ = some (.slice al t.l.length pl) := cellOf hr 3 _ rfl
    have r4 : W7.cell? ⟨w.heap.size, 4, none⟩ = some (.slice au t.u.length pu) := cellOf hr 4 _ rfl
    have K7 : Keep [] w W7 := (((K2.weaken (B := [w.heap.size, w.heap.size + 1]) (by simp)).trans ((k3.weaken (by simp)).trans ((k4.weaken (by simp)).trans (kr.weaken (by simp)))))).fresh (by simp)
    refine bodyPost_ret (v := .tuple #[.agg #[.int .i64 t.n, .slice az t.s.length ps, .bool t.null, .slice al t.l.length pl, .slice au t.u.length pu], .bool true]) (by simp [results, Tryd.results15, go_sem, r0, r1, r2, r3, r4]) rfl ⟨[.int .i64 t.n, .slice az t.s.length ps, .bool t.null, .slice al t.l.length pl, .slice au t.u.length pu], rfl, ?_, K7⟩
    exact hc.keepF (w' := W7) (G := New (fun _ => False) w W7) (fun k hk => kr.block k hk.2 (by have := hk.1; simp; omega)) (fun k hk => ⟨.inr (by have := hk.1; omega), Nat.lt_of_lt_of_le hk.2 kr.size⟩)
  · rw [if_pos rfl]
    go_enter Tryd.func15, Tryd.ntmps15
    have k0 : Keep [] w ((w.alloc (.cells #[.int .i64 0, .slice none 0 0, .bool false, .slice none 0 0, .slice none 0 0] 37)).alloc (.cells #[.int .i16 v, .int .u8 0, .int .u8 0, .int .u8 0, .int .u8 0, .int .u8 0, .int .u8 0, .int .u8 0, .int .u8 0, .int .u8 0, .int .u8 0, .int .u8 0, .int .u8 0, .int .u8 0, .int .u8 0, .int .u8 0, .int .u8 0, .int .i32 0, .bool false, .int .i8 0, .slice none 0 0, .map none] 91)) := (keep_box (A := []) _).alloc _
    have h0 : ((w.alloc (.cells #[.int .i64 0, .slice none 0 0, .bool false, .slice none 0 0, .slice none 0 0] 37)).alloc (.cells #[.int .i16 v, .int .u8 0, .int .u8 0, .int .u8 0, .int .u8 0, .int .u8 0, .int .u8 0, .int .u8 0, .int .u8 0, .int .u8 0, .int .u8 0, .int .u8 0, .int .u8 0, .int .u8 0, .int .u8 0, .int .u8 0, .int .u8 0, .int .i32 0, .bool false, .int .i8 0, .slice none 0 0, .map none] 91)).heap[w.heap.size]? = some (.cells #[.int .i64 0, .slice none 0 0, .bool false, .slice none 0 0, .slice none 0 0] 37 (0, 0)) := ((keep_box (A := []) _).block w.heap.size (by simp) (by simp)).trans (heap_alloc_new w (.cells #[.int .i64 0, .slice none 0 0, .bool false, .slice none 0 0, .slice none 0 0] 37))
    have h1 : ((w.alloc (.cells #[.int .i64 0, .slice none 0 0, .bool false, .slice none 0 0, .slice none 0 0] 37)).alloc (.cells #[.int .i16 v, .int .u8 0, .int .u8 0, .int .u8 0, .int .u8 0, .int .u8 0, .int .u8 0, .int .u8 0, .int .u8 0, .int .u8 0, .int .u8 0, .int .u8 0, .int .u8 0, .int .u8 0, .int .u8 0, .int .u8 0, .int .u8 0, .int .i32 0, .bool false, .int .i8 0, .slice none 0 0, .map none] 91)).heap[w.heap.size + 1]? = some (.cells #[.int .i16 v, .int .u8 0, .int .u8 0, .int .u8 0, .int .u8 0, .int .u8 0, .int .u8 0, .int .u8 0, .int .u8 0, .int .u8 0, .int .u8 0, .int .u8 0, .int .u8 0, .int .u8 0, .int .u8 0, .int .u8 0, .int .u8 0, .int .i32 0, .bool false, .int .i8 0, .slice none 0 0, .map none] 91 (0, 0)) := by
      have h := heap_alloc_new (w.alloc (.cells #[.int .i64 0, .slice none 0 0, .bool false, .slice none 0 0, .slice none 0 0] 37)) (.cells #[.int .i16 v, .int .u8 0, .int .u8 0, .int .u8 0, .int .u8 0, .int .u8 0, .int .u8 0, .int .u8 0, .int .u8 0, .int .u8 0, .int .u8 0, .int .u8 0, .int .u8 0, .int .u8 0, .int .u8 0, .int .u8 0, .int .u8 0, .int .i32 0, .bool false, .int .i8 0, .slice none 0 0, .map none] 91)
      simpa using h
    have hz0 : ((w.alloc (.cells #[.int .i64 0, .slice none 0 0, .bool false, .slice none 0 0, .slice none 0 0] 37)).alloc (.cells #[.int .i16 v, .int .u8 0, .int .u8 0, .int .u8 0, .int .u8 0, .int .u8 0, .int .u8 0, .int .u8 0, .int .u8 0, .int .u8 0, .int .u8 0, .int .u8 0, .int .u8 0, .int .u8 0, .int .u8 0, .int .u8 0, .int .u8 0, .int .i32 0, .bool false, .int .i8 0, .slice none 0 0, .map none] 91)).heap.size = w.heap.size + 2 := by simp
    have hu0 : ((w.alloc (.cells #[.int .i64 0, .slice none 0 0, .bool false, .slice none 0 0, .slice none 0 0] 37)).alloc (.cells #[.int .i16 0, .int .u8 0, .int .u8 0, .int .u8 0, .int .u8 0, .int .u8 0, .int .u8 0, .int .u8 0, .int .u8 0, .int .u8 0, .int .u8 0, .int .u8 0, .int .u8 0, .int .u8 0, .int .u8 0, .int .u8 0, .int .u8 0, .int .i32 0, .bool false, .int .i8 0, .slice none 0 0, .map none] 91)).heap[w.heap.size + 1]? = some (.cells #[.int .i16 0, .int .u8 0, .int .u8 0, .int .u8 0, .int .u8 0, .int .u8 0, .int .u8 0, .int .u8 0, .int .u8 0, .int .u8 0, .int .u8 0, .int .u8 0, .int .u8 0, .int .u8 0, .int .u8 0, .int .u8 0, .int .u8 0, .int .i32 0, .bool false, .int .i8 0, .slice none 0 0, .map none] 91 (0, 0)) := by
      have h := heap_alloc_new (w.alloc (.cells #[.int .i64 0, .slice none 0 0, .bool false, .slice none 0 0, .slice none 0 0] 37)) (.cells #[.int .i16 0, .int .u8 0, .int .u8 0, .int .u8 0, .int .u8 0, .int .u8 0, .int .u8 0, .int .u8 0, .int .u8 0, .int .u8 0, .int .u8 0, .int .u8 0, .int .u8 0, .int .u8 0, .int .u8 0, .int .u8 0, .int .u8 0, .int .i32 0, .bool false, .int .i8 0, .slice none 0 0, .map none] 91)
      simpa using h
    have hc0 := cellOf hu0 0 (.int .i16 0) rfl
    have hf0 := freeOf hu0 0
    clear hu0
    have SV := ptr_setv (v := v) hc0 hf0
    go_upto_region 3 with (first
      | (go_at_call 28; refine (ptr_new _).mono ?_; rintro e w1 ⟨rfl, rfl⟩)
      | (go_at_call 30; go_loud (refine SV.mono ?_; rintro e w1 ⟨rfl, rfl⟩)))
    clear SV hc0 hf0
    generalize ((w.alloc (.cells #[.int .i64 0, .slice none 0 0, .bool false, .slice none 0 0, .slice none 0 0] 37)).alloc (.cells #[.int .i16 v, .int .u8 0, .int .u8 0, .int .u8 0, .int .u8 0, .int .u8 0, .int .u8 0, .int .u8 0, .int .u8 0, .int .u8 0, .int .u8 0, .int .u8 0, .int .u8 0, .int .u8 0, .int .u8 0, .int .u8 0, .int .u8 0, .int .i32 0, .bool false, .int .i8 0, .slice none 0 0, .map none] 91)) = W0 at *
    have H0 : Hid _ := h0
    have H1 : Hid _ := h1
    clear h0 h1
    go_wp2_with (first
      | (go_at_call 31; go_loud (refine Calls.mono RF.out ?_; rw [HRD.out]; rintro e w3 ⟨rfl, k3, b3⟩; rw [errV_true]; have hz3 := k3.size; have r3 := (k3.block (w.heap.size) (by omega) (by simp)).trans ((k2.block (w.heap.size) (by omega) (by simp)).trans H0.out); have p0 : w3.cell? ⟨w.heap.size, 0, none⟩ = some (.int .i64 0) := cellOf r3 0 _ rfl; have pf0 := freeOf r3 0; have p1 : w3.cell? ⟨w.heap.size, 1, none⟩ = some (.slice none 0 0) := cellOf r3 1 _ rfl; have pf1 := freeOf r3 1; have p2 : w3.cell? ⟨w.heap.size, 2, none⟩ = some (.bool false) := cellOf r3 2 _ rfl; have pf2 := freeOf r3 2; have p3 : w3.cell? ⟨w.heap.size, 3, none⟩ = some (.slice none 0 0) := cellOf r3 3 _ rfl; have pf3 := freeOf r3 3; have p4 : w3.cell? ⟨w.heap.size, 4, none⟩ = some (.slice none 0 0) := cellOf r3 4 _ rfl; have pf4 := freeOf r3 4; have R3 : Hid _ := r3; clear r3 b3 RF))
      | (at_builtin; go_loud (refine app_ob rfl (.const (.slice none 0 0)) (.tmp 13) rfl W0.heap.size (.slice none 0 0) [] rfl (OB.nil _ _) _ l G rfl (hl.keepF (hG.same k0) (fun _ h => h)) (by simp; omega) (Nat.le_refl _) ?_; intro v2 w2 hown hgr; have k2 : Keep [] W0 w2 := (Keep.refl _ _).grown hgr (by simp [Value.ownBlock]); have K2 := k0.trans k2; have hz2 := k2.size; have b2 := (k2.block (w.heap.size + 1) (by omega) (by simp)).trans H1.out; have hB2 : RB w2 (fun k => W0.heap.size ≤ k ∧ k < w2.heap.size) v2 l := hown.rb; have RF : Hid _ := ptr_ReadFrom b2 hB2 (fun k h => h.2) (by omega) (hg.keep K2 List.not_mem_nil) (by omega) hv.1; clear b2)))
    have hr : (((((w3.setCell ⟨w.heap.size, 0, none⟩ (.int .i64 0)).setCell ⟨w.heap.size, 1, none⟩ (.slice none 0 0)).setCell ⟨w.heap.size, 2, none⟩ (.bool false)).setCell ⟨w.heap.size, 3, none⟩ (.slice none 0 0)).setCell ⟨w.heap.size, 4, none⟩ (.slice none 0 0)).heap[w.heap.size]? = some (.cells #[.int .i64 0, .slice none 0 0, .bool false, .slice none 0 0, .slice none 0 0] 37 (0, 0)) := (set5 (o := 0) R3.out).1
    have kr : Keep [w.heap.size] w3 (((((w3.setCell ⟨w.heap.size, 0, none⟩ (.int .i64 0)).setCell ⟨w.heap.size, 1, none⟩ (.slice none 0 0)).setCell ⟨w.heap.size, 2, none⟩ (.bool false)).setCell ⟨w.heap.size, 3, none⟩ (.slice none 0 0)).setCell ⟨w.heap.size, 4, none⟩ (.slice none 0 0)) := (set5 (o := 0) R3.out).2
    clear p0 pf0 p1 pf1 p2 pf2 p3 pf3 p4 pf4
    generalize (((((w3.setCell ⟨w.heap.size, 0, none⟩ (.int .i64 0)).setCell ⟨w.heap.size, 1, none⟩ (.slice none 0 0)).setCell ⟨w.heap.size, 2, none⟩ (.bool false)).setCell ⟨w.heap.size, 3, none⟩ (.slice none 0 0)).setCell ⟨w.heap.size, 4, none⟩ (.slice none 0 0)) = W7 at *
    have r0 : W7.cell? ⟨w.heap.size, 0, none⟩ = some (.int .i64 0) := cellOf hr 0 _ rfl
    have r1 : W7.cell? ⟨w.heap.size, 1, none⟩ = some (.slice none 0 0) := cellOf hr 1 _ rfl
    have r2 : W7.cell? ⟨w.heap.size, 2, none⟩ = some (.bool false) := cellOf hr 2 _ rfl
    have r3 : W7.cell? ⟨w.heap.size, 3, none⟩ = some (.slice none 0 0) := cellOf hr 3 _ rfl
    have r4 : W7.cell? ⟨w.heap.size, 4, none⟩ = some (.slice none 0 0) := cellOf hr 4 _ rfl
    have K7 : Keep [] w W7 := (((K2.weaken (B := [w.heap.size, w.heap.size + 1]) (by simp)).trans ((k3.weaken (by simp)).trans (kr.weaken (by simp))))).fresh (by simp)
    refine bodyPost_ret (v := .tuple #[.agg #[.int .i64 0, .slice none 0 0, .bool false, .slice none 0 0, .slice none 0 0], .bool false]) (by simp [results, Tryd.results15, go_sem, r0, r1, r2, r3, r4]) rfl ⟨[.int .i64 0, .slice none 0 0, .bool false, .slice none 0 0, .slice none 0 0], rfl, HT.zero _ _, K7⟩
end Go.Proofs.YtdklogmmfnddiaaDoor
