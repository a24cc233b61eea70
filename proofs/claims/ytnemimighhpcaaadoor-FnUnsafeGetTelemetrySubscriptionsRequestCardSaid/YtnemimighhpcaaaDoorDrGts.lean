/-
  GetTelemetrySubscriptionsRequest: its doors.
-/
import Derived.Test.YtnemimighhpcaaaDoorTlGts
import Derived.Test.YtnemimighhpcaaaDoorTagsQ
namespace Go.Proofs.YtnemimighhpcaaaDoor
open Go.ChangeShapes Go.WideShapes Go.ChangeAt Go.RowKit

theorem gts_new (w : World) : Calls Tryd.prog 51 #[] w fun e w' => e = .returned (.pointer (some ⟨w.heap.size, 0, none⟩)) ∧ w.alloc (.cells #[.int .i16 0, .int .u8 0, .int .u8 0, .int .u8 0, .int .u8 0, .int .u8 0, .int .u8 0, .int .u8 0, .int .u8 0, .int .u8 0, .int .u8 0, .int .u8 0, .int .u8 0, .int .u8 0, .int .u8 0, .int .u8 0, .int .u8 0, .map none] 113) = w' := by
  go_enter Tryd.func51, Tryd.ntmps51
  go_wp2_with (go_at_call 105; refine (gts_default _ _).mono ?_; rintro e w1 ⟨rfl, rfl⟩)
  go_ret
  exact ⟨rfl, rfl⟩
theorem gts_max (w : World) (x : Value) : Calls Tryd.prog 52 #[x] w fun e w' => e = .returned (.int .i16 0) ∧ w = w' := by
  go_enter Tryd.func52, Tryd.ntmps52
  go_wp2
  go_ret
  exact ⟨rfl, rfl⟩
theorem gts_Max (w : World) : Calls Tryd.prog 18 #[] w fun e w' => e = .returned (.int .i64 0) ∧ Keep [] w w' := by
  go_enter Tryd.func18, Tryd.ntmps18
  go_wp2_with (first
    | (go_at_call 51; refine (gts_new _).mono ?_; rintro e w1 ⟨rfl, rfl⟩)
    | (go_at_call 52; refine (gts_max _ _).mono ?_; rintro e w2 ⟨rfl, rfl⟩))
  go_ret
  exact ⟨rfl, keep_box _⟩
theorem gts_setv {w : World} {b : Nat} {v : Int} {x : Value} (h : w.cell? ⟨b, 0, none⟩ = some x) (hf : w.frozen? ⟨b, 0, none⟩ = false) : Calls Tryd.prog 53 #[.pointer (some ⟨b, 0, none⟩), .int .i16 v] w fun e w' => e = .returned (.tuple #[]) ∧ w.setCell ⟨b, 0, none⟩ (.int .i16 v) = w' := by
  go_enter Tryd.func53, Tryd.ntmps53
  go_wp2
  refine bodyPost_end (v := .tuple #[]) (by simp [results, Tryd.results53, go_sem]) rfl ⟨rfl, rfl⟩
theorem gts_ReadFrom {G : Nat → Prop} {b : Nat} {p : Addr} {l : Bs} {src : Value} {w : World} {ver : Int} (hb : w.heap[b]? = some (.cells #[.int .i16 ver, .int .u8 0, .int .u8 0, .int .u8 0, .int .u8 0, .int .u8 0, .int .u8 0, .int .u8 0, .int .u8 0, .int .u8 0, .int .u8 0, .int .u8 0, .int .u8 0, .int .u8 0, .int .u8 0, .int .u8 0, .int .u8 0, .map none] 113 (0, 0))) (hl : RB w G src l) (hG : There G w) (hGb : ¬ G b) (hg : Gl w p) (hp : b ≠ 0) (hver : 0 ≤ ver) :
    Calls Tryd.prog 54 #[.pointer (some ⟨b, 0, none⟩), src] w fun e w' => e = .returned (errV p (gtsRT ver l).2.2) ∧ ∃ tv, w'.heap[b]? = some (.cells #[.int .i16 ver, bv ((gtsR1 ver l).1.getD 0 0), bv ((gtsR1 ver l).1.getD 1 0), bv ((gtsR1 ver l).1.getD 2 0), bv ((gtsR1 ver l).1.getD 3 0), bv ((gtsR1 ver l).1.getD 4 0), bv ((gtsR1 ver l).1.getD 5 0), bv ((gtsR1 ver l).1.getD 6 0), bv ((gtsR1 ver l).1.getD 7 0), bv ((gtsR1 ver l).1.getD 8 0), bv ((gtsR1 ver l).1.getD 9 0), bv ((gtsR1 ver l).1.getD 10 0), bv ((gtsR1 ver l).1.getD 11 0), bv ((gtsR1 ver l).1.getD 12 0), bv ((gtsR1 ver l).1.getD 13 0), bv ((gtsR1 ver l).1.getD 14 0), bv ((gtsR1 ver l).1.getD 15 0), tv] 113 (0, 0)) ∧ MP w' (New G w w') tv (gtsRT ver l).1 ∧ Keep [b] w w' := by
  go_enter Tryd.func54, Tryd.ntmps54
  go_wp2_with (go_at_call 106; refine (gts_read hb hl hG hGb hg hp hver false).mono ?_; rintro e w1 ⟨rfl, h1⟩)
  go_ret
  exact ⟨rfl, h1⟩
theorem gts_UnsafeReadFrom {G : Nat → Prop} {b : Nat} {p : Addr} {l : Bs} {src : Value} {w : World} {ver : Int} (hb : w.heap[b]? = some (.cells #[.int .i16 ver, .int .u8 0, .int .u8 0, .int .u8 0, .int .u8 0, .int .u8 0, .int .u8 0, .int .u8 0, .int .u8 0, .int .u8 0, .int .u8 0, .int .u8 0, .int .u8 0, .int .u8 0, .int .u8 0, .int .u8 0, .int .u8 0, .map none] 113 (0, 0))) (hl : RB w G src l) (hG : There G w) (hGb : ¬ G b) (hg : Gl w p) (hp : b ≠ 0) (hver : 0 ≤ ver) :
    Calls Tryd.prog 56 #[.pointer (some ⟨b, 0, none⟩), src] w fun e w' => e = .returned (errV p (gtsRT ver l).2.2) ∧ ∃ tv, w'.heap[b]? = some (.cells #[.int .i16 ver, bv ((gtsR1 ver l).1.getD 0 0), bv ((gtsR1 ver l).1.getD 1 0), bv ((gtsR1 ver l).1.getD 2 0), bv ((gtsR1 ver l).1.getD 3 0), bv ((gtsR1 ver l).1.getD 4 0), bv ((gtsR1 ver l).1.getD 5 0), bv ((gtsR1 ver l).1.getD 6 0), bv ((gtsR1 ver l).1.getD 7 0), bv ((gtsR1 ver l).1.getD 8 0), bv ((gtsR1 ver l).1.getD 9 0), bv ((gtsR1 ver l).1.getD 10 0), bv ((gtsR1 ver l).1.getD 11 0), bv ((gtsR1 ver l).1.getD 12 0), bv ((gtsR1 ver l).1.getD 13 0), bv ((gtsR1 ver l).1.getD 14 0), bv ((gtsR1 ver l).1.getD 15 0), tv] 113 (0, 0)) ∧ MP w' (New G w w') tv (gtsRT ver l).1 ∧ Keep [b] w w' := by
  go_enter Tryd.func56, Tryd.ntmps56
  go_wp2_with (go_at_call 106; refine (gts_read hb hl hG hGb hg hp hver true).mono ?_; rintro e w1 ⟨rfl, h1⟩)
  go_ret
  exact ⟨rfl, h1⟩
/-- what is told -/
def gtsT (ver : Int) (l : Bs) : T := .mk 0 [] false [.mk 0 (gtsR1 ver l).1 false [] []] (gtsRT ver l).1
theorem gts_len (ver : Int) (l : Bs) : (gtsRT ver l).1.length ≤ l.length + 1 ∧ (∀ x ∈ (gtsRT ver l).1, x.2.length ≤ l.length) := by
  have a1 : (gtsR1 ver l).2.1.length ≤ l.length := by
    have q1 := rdUuid_len (l, false)
    have q0 : ((l, false) : St).1.length ≤ l.length := Nat.le_refl _
    unfold gtsR1
    (repeat' split) <;> first | exact Nat.le_trans q1 q0 | exact q0
  have q1 := rdTags_len (gtsR1 ver l).2
  unfold gtsRT
  exact ⟨by omega, fun x hx => Nat.le_trans (q1.2 x hx) a1⟩
theorem gts_ul1 (ver : Int) (l : Bs) : (gtsR1 ver l).1.length = 16 := pad16_length _
set_option maxHeartbeats 1000000 in
set_option maxRecDepth 100000 in
theorem gts_Tell {G : Nat → Prop} {p : Addr} {l : Bs} {src : Value} {w : World} {v : Int} (hv : 0 ≤ v ∧ v ≤ 0) (hl : RB w G src l) (hll : l.length ≤ 1000) (hG : There G w) (hg : Gl w p) :
    Calls Tryd.prog 19 #[.int .i64 v, src] w fun e w' => ∃ c, e = .returned (.tuple #[.agg c.toArray, .bool (!(gtsRT v l).2.2)]) ∧ HT w' (New (fun _ => False) w w') (if (gtsRT v l).2.2 then T.zero else gtsT v l) c ∧ Keep [] w w' := by
  obtain ⟨ao, cap, rfl⟩ := RS.shape hl
  have hp1 : 0 < w.heap.size := World.block_lt_of_cell? w _ hg
  have hwr : IntKind.i16.wrap v = v := by rw [wrap_i16']; split <;> omega
  have hlen := gts_len v l
  cases hbad : (gtsRT v l).2.2
  · rw [if_neg Bool.false_ne_true]
    go_enter Tryd.func19, Tryd.ntmps19
    have k0 : Keep [] w ((w.alloc (.cells #[.int .i64 0, .slice none 0 0, .bool false, .slice none 0 0, .slice none 0 0] 42)).alloc (.cells #[.int .i16 v, .int .u8 0, .int .u8 0, .int .u8 0, .int .u8 0, .int .u8 0, .int .u8 0, .int .u8 0, .int .u8 0, .int .u8 0, .int .u8 0, .int .u8 0, .int .u8 0, .int .u8 0, .int .u8 0, .int .u8 0, .int .u8 0, .map none] 113)) := (keep_box (A := []) _).alloc _
    have h0 : ((w.alloc (.cells #[.int .i64 0, .slice none 0 0, .bool false, .slice none 0 0, .slice none 0 0] 42)).alloc (.cells #[.int .i16 v, .int .u8 0, .int .u8 0, .int .u8 0, .int .u8 0, .int .u8 0, .int .u8 0, .int .u8 0, .int .u8 0, .int .u8 0, .int .u8 0, .int .u8 0, .int .u8 0, .int .u8 0, .int .u8 0, .int .u8 0, .int .u8 0, .map none] 113)).heap[w.heap.size]? = some (.cells #[.int .i64 0, .slice none 0 0, .bool false, .slice none 0 0, .slice none 0 0] 42) := ((keep_box (A := []) _).block w.heap.size (by simp) (by simp)).trans (heap_alloc_new w (.cells #[.int .i64 0, .slice none 0 0, .bool false, .slice none 0 0, .slice none 0 0] 42))
    have h1 : ((w.alloc (.cells #[.int .i64 0, .slice none 0 0, .bool false, .slice none 0 0, .slice none 0 0] 42)).alloc (.cells #[.int .i16 v, .int .u8 0, .int .u8 0, .int .u8 0, .int .u8 0, .int .u8 0, .int .u8 0, .int .u8 0, .int .u8 0, .int .u8 0, .int .u8 0, .int .u8 0, .int .u8 0, .int .u8 0, .int .u8 0, .int .u8 0, .int .u8 0, .map none] 113)).heap[w.heap.size + 1]? = some (.cells #[.int .i16 v, .int .u8 0, .int .u8 0, .int .u8 0, .int .u8 0, .int .u8 0, .int .u8 0, .int .u8 0, .int .u8 0, .int .u8 0, .int .u8 0, .int .u8 0, .int .u8 0, .int .u8 0, .int .u8 0, .int .u8 0, .int .u8 0, .map none] 113) := by
      have h := heap_alloc_new (w.alloc (.cells #[.int .i64 0, .slice none 0 0, .bool false, .slice none 0 0, .slice none 0 0] 42)) (.cells #[.int .i16 v, .int .u8 0, .int .u8 0, .int .u8 0, .int .u8 0, .int .u8 0, .int .u8 0, .int .u8 0, .int .u8 0, .int .u8 0, .int .u8 0, .int .u8 0, .int .u8 0, .int .u8 0, .int .u8 0, .int .u8 0, .int .u8 0, .map none] 113)
      simpa using h
    have hz0 : ((w.alloc (.cells #[.int .i64 0, .slice none 0 0, .bool false, .slice none 0 0, .slice none 0 0] 42)).alloc (.cells #[.int .i16 v, .int .u8 0, .int .u8 0, .int .u8 0, .int .u8 0, .int .u8 0, .int .u8 0, .int .u8 0, .int .u8 0, .int .u8 0, .int .u8 0, .int .u8 0, .int .u8 0, .int .u8 0, .int .u8 0, .int .u8 0, .int .u8 0, .map none] 113)).heap.size = w.heap.size + 2 := by simp
    have hu0 : ((w.alloc (.cells #[.int .i64 0, .slice none 0 0, .bool false, .slice none 0 0, .slice none 0 0] 42)).alloc (.cells #[.int .i16 0, .int .u8 0, .int .u8 0, .int .u8 0, .int .u8 0, .int .u8 0, .int .u8 0, .int .u8 0, .int .u8 0, .int .u8 0, .int .u8 0, .int .u8 0, .int .u8 0, .int .u8 0, .int .u8 0, .int .u8 0, .int .u8 0, .map none] 113)).heap[w.heap.size + 1]? = some (.cells #[.int .i16 0, .int .u8 0, .int .u8 0, .int .u8 0, .int .u8 0, .int .u8 0, .int .u8 0, .int .u8 0, .int .u8 0, .int .u8 0, .int .u8 0, .int .u8 0, .int .u8 0, .int .u8 0, .int .u8 0, .int .u8 0, .int .u8 0, .map none] 113) := by
      have h := heap_alloc_new (w.alloc (.cells #[.int .i64 0, .slice none 0 0, .bool false, .slice none 0 0, .slice none 0 0] 42)) (.cells #[.int .i16 0, .int .u8 0, .int .u8 0, .int .u8 0, .int .u8 0, .int .u8 0, .int .u8 0, .int .u8 0, .int .u8 0, .int .u8 0, .int .u8 0, .int .u8 0, .int .u8 0, .int .u8 0, .int .u8 0, .int .u8 0, .int .u8 0, .map none] 113)
      simpa using h
    have hc0 := cellOf hu0 0 (.int .i16 0) rfl
    have hf0 := freeOf hu0 0
    clear hu0
    have SV := gts_setv (v := v) hc0 hf0
    go_upto_region 3 with (first
      | (go_at_call 51; refine (gts_new _).mono ?_; rintro e w1 ⟨rfl, rfl⟩)
      | (go_at_call 53; go_loud (refine SV.mono ?_; rintro e w1 ⟨rfl, rfl⟩)))
    clear SV hc0 hf0
    generalize ((w.alloc (.cells #[.int .i64 0, .slice none 0 0, .bool false, .slice none 0 0, .slice none 0 0] 42)).alloc (.cells #[.int .i16 v, .int .u8 0, .int .u8 0, .int .u8 0, .int .u8 0, .int .u8 0, .int .u8 0, .int .u8 0, .int .u8 0, .int .u8 0, .int .u8 0, .int .u8 0, .int .u8 0, .int .u8 0, .int .u8 0, .int .u8 0, .int .u8 0, .map none] 113)) = W0 at *
    have H0 : Hid _ := h0
    have H1 : Hid _ := h1
    clear h0 h1
    go_wp2_with (first
      | (at_builtin; go_loud (refine app_ob rfl (.const (.slice none 0 0)) (.tmp 13) rfl W0.heap.size (.slice none 0 0) [] rfl (OB.nil _ _) _ l G rfl (hl.keepF (hG.same k0) (fun _ h => h)) (by simp; omega) (Nat.le_refl _) ?_; intro v2 w2 hown hgr; have k2 : Keep [] W0 w2 := (Keep.refl _ _).grown hgr (by simp [Value.ownBlock]); have K2 := k0.trans k2; have hz2 := k2.size; have b2 := (k2.block (w.heap.size + 1) (by omega) (by simp)).trans H1.out; have hB2 : RB w2 (fun k => W0.heap.size ≤ k ∧ k < w2.heap.size) v2 l := hown.rb; have RF := gts_ReadFrom b2 hB2 (fun k h => h.2) (by omega) (hg.keep K2 List.not_mem_nil) (by omega) hv.1; clear b2))
      | (go_at_call 54; go_loud (refine RF.mono ?_; rintro e w3 ⟨rfl, tv, b3, mp3, k3⟩; rw [hbad, errV_false]; have hz3 := k3.size; have r3 := (k3.block (w.heap.size) (by omega) (by simp)).trans ((k2.block (w.heap.size) (by omega) (by simp)).trans H0.out); have TL := gts_tell b3 mp3 (fun k h => h.2) (gts_ul1 _ _) (fun x hx => by have := hlen.2 x hx; omega) (by omega); have R3 : Hid _ := r3; clear r3 b3))
      | (go_at_call 55; go_loud (refine TL.mono ?_; rintro e w4 ⟨c, rfl, hc, k4⟩; obtain ⟨az, ps, al, pl, au, pu, rfl, -⟩ := id hc.cells; simp only [T.n, T.s, T.null, T.l, T.u, List.length_nil, List.length_cons, Nat.zero_add] at hc ⊢; have hz4 := k4.size; have r4 := (k4.block (w.heap.size) (by omega) List.not_mem_nil).trans R3.out; have p0 : w4.cell? ⟨w.heap.size, 0, none⟩ = some (.int .i64 0) := cellOf r4 0 _ rfl; have pf0 := freeOf r4 0; have p1 : w4.cell? ⟨w.heap.size, 1, none⟩ = some (.slice none 0 0) := cellOf r4 1 _ rfl; have pf1 := freeOf r4 1; have p2 : w4.cell? ⟨w.heap.size, 2, none⟩ = some (.bool false) := cellOf r4 2 _ rfl; have pf2 := freeOf r4 2; have p3 : w4.cell? ⟨w.heap.size, 3, none⟩ = some (.slice none 0 0) := cellOf r4 3 _ rfl; have pf3 := freeOf r4 3; have p4 : w4.cell? ⟨w.heap.size, 4, none⟩ = some (.slice none 0 0) := cellOf r4 4 _ rfl; have pf4 := freeOf r4 4; have R4 : Hid _ := r4; clear r4)))
    have hr : (((((w4.setCell ⟨w.heap.size, 0, none⟩ (.int .i64 0)).setCell ⟨w.heap.size, 1, none⟩ (.slice az 0 ps)).setCell ⟨w.heap.size, 2, none⟩ (.bool false)).setCell ⟨w.heap.size, 3, none⟩ (.slice al 1 pl)).setCell ⟨w.heap.size, 4, none⟩ (.slice au (gtsRT v l).1.length pu)).heap[w.heap.size]? = some (.cells #[.int .i64 0, .slice az 0 ps, .bool false, .slice al 1 pl, .slice au (gtsRT v l).1.length pu] 42 (0, 0)) := (set5 (o := 0) R4.out).1
    have kr : Keep [w.heap.size] w4 (((((w4.setCell ⟨w.heap.size, 0, none⟩ (.int .i64 0)).setCell ⟨w.heap.size, 1, none⟩ (.slice az 0 ps)).setCell ⟨w.heap.size, 2, none⟩ (.bool false)).setCell ⟨w.heap.size, 3, none⟩ (.slice al 1 pl)).setCell ⟨w.heap.size, 4, none⟩ (.slice au (gtsRT v l).1.length pu)) := (set5 (o := 0) R4.out).2
    clear p0 pf0 p1 pf1 p2 pf2 p3 pf3 p4 pf4
    generalize (((((w4.setCell ⟨w.heap.size, 0, none⟩ (.int .i64 0)).setCell ⟨w.heap.size, 1, none⟩ (.slice az 0 ps)).setCell ⟨w.heap.size, 2, none⟩ (.bool false)).setCell ⟨w.heap.size, 3, none⟩ (.slice al 1 pl)).setCell ⟨w.heap.size, 4, none⟩ (.slice au (gtsRT v l).1.length pu)) = W7 at *
    have r0 : W7.cell? ⟨w.heap.size, 0, none⟩ = some (.int .i64 0) := cellOf hr 0 _ rfl
    have r1 : W7.cell? ⟨w.heap.size, 1, none⟩ = some (.slice az 0 ps) := cellOf hr 1 _ rfl
    have r2 : W7.cell? ⟨w.heap.size, 2, none⟩ = some (.bool false) := cellOf hr 2 _ rfl
    have r3 : W7.cell? ⟨w.heap.size, 3, none⟩ = some (.slice al 1 pl) := cellOf hr 3 _ rfl
    have r4 : W7.cell? ⟨w.heap.size, 4, none⟩ = some (.slice au (gtsRT v l).1.length pu) := cellOf hr 4 _ rfl
    have K7 : Keep [] w W7 := (((K2.weaken (B := [w.heap.size, w.heap.size + 1]) (by simp)).trans ((k3.weaken (by simp)).trans ((k4.weaken (by simp)).trans (kr.weaken (by simp)))))).fresh (by simp)
    refine bodyPost_ret (v := .tuple #[.agg #[.int .i64 0, .slice az 0 ps, .bool false, .slice al 1 pl, .slice au (gtsRT v l).1.length pu], .bool true]) (by simp [results, Tryd.results19, go_sem, r0, r1, r2, r3, r4]) rfl ⟨[.int .i64 0, .slice az 0 ps, .bool false, .slice al 1 pl, .slice au (gtsRT v l).1.length pu], rfl, ?_, K7⟩
    have hzr := kr.size
    have hc7 := hc.keepF (w' := W7) (G := New (fun _ => False) w W7) (fun k hk => kr.block k hk.2 (by have := hk.1; simp; omega)) (fun k hk => ⟨.inr (by have := hk.1; omega), Nat.lt_of_lt_of_le hk.2 kr.size⟩)
    exact hc7
  · rw [if_pos rfl]
    go_enter Tryd.func19, Tryd.ntmps19
    have k0 : Keep [] w ((w.alloc (.cells #[.int .i64 0, .slice none 0 0, .bool false, .slice none 0 0, .slice none 0 0] 42)).alloc (.cells #[.int .i16 v, .int .u8 0, .int .u8 0, .int .u8 0, .int .u8 0, .int .u8 0, .int .u8 0, .int .u8 0, .int .u8 0, .int .u8 0, .int .u8 0, .int .u8 0, .int .u8 0, .int .u8 0, .int .u8 0, .int .u8 0, .int .u8 0, .map none] 113)) := (keep_box (A := []) _).alloc _
    have h0 : ((w.alloc (.cells #[.int .i64 0, .slice none 0 0, .bool false, .slice none 0 0, .slice none 0 0] 42)).alloc (.cells #[.int .i16 v, .int .u8 0, .int .u8 0, .int .u8 0, .int .u8 0, .int .u8 0, .int .u8 0, .int .u8 0, .int .u8 0, .int .u8 0, .int .u8 0, .int .u8 0, .int .u8 0, .int .u8 0, .int .u8 0, .int .u8 0, .int .u8 0, .map none] 113)).heap[w.heap.size]? = some (.cells #[.int .i64 0, .slice none 0 0, .bool false, .slice none 0 0, .slice none 0 0] 42) := ((keep_box (A := []) _).block w.heap.size (by simp) (by simp)).trans (heap_alloc_new w (.cells #[.int .i64 0, .slice none 0 0, .bool false, .slice none 0 0, .slice none 0 0] 42))
    have h1 : ((w.alloc (.cells #[.int .i64 0, .slice none 0 0, .bool false, .slice none 0 0, .slice none 0 0] 42)).alloc (.cells #[.int .i16 v, .int .u8 0, .int .u8 0, .int .u8 0, .int .u8 0, .int .u8 0, .int .u8 0, .int .u8 0, .int .u8 0, .int .u8 0, .int .u8 0, .int .u8 0, .int .u8 0, .int .u8 0, .int .u8 0, .int .u8 0, .int .u8 0, .map none] 113)).heap[w.heap.size + 1]? = some (.cells #[.int .i16 v, .int .u8 0, .int .u8 0, .int .u8 0, .int .u8 0, .int .u8 0, .int .u8 0, .int .u8 0, .int .u8 0, .int .u8 0, .int .u8 0, .int .u8 0, .int .u8 0, .int .u8 0, .int .u8 0, .int .u8 0, .int .u8 0, .map none] 113) := by
      have h := heap_alloc_new (w.alloc (.cells #[.int .i64 0, .slice none 0 0, .bool false, .slice none 0 0, .slice none 0 0] 42)) (.cells #[.int .i16 v, .int .u8 0, .int .u8 0, .int .u8 0, .int .u8 0, .int .u8 0, .int .u8 0, .int .u8 0, .int .u8 0, .int .u8 0, .int .u8 0, .int .u8 0, .int .u8 0, .int .u8 0, .int .u8 0, .int .u8 0, .int .u8 0, .map none] 113)
      simpa using h
    have hz0 : ((w.alloc (.cells #[.int .i64 0, .slice none 0 0, .bool false, .slice none 0 0, .slice none 0 0] 42)).alloc (.cells #[.int .i16 v, .int .u8 0, .int .u8 0, .int .u8 0, .int .u8 0, .int .u8 0, .int .u8 0, .int .u8 0, .int .u8 0, .int .u8 0, .int .u8 0, .int .u8 0, .int .u8 0, .int .u8 0, .int .u8 0, .int .u8 0, .int .u8 0, .map none] 113)).heap.size = w.heap.size + 2 := by simp
    have hu0 : ((w.alloc (.cells #[.int .i64 0, .slice none 0 0, .bool false, .slice none 0 0, .slice none 0 0] 42)).alloc (.cells #[.int .i16 0, .int .u8 0, .int .u8 0, .int .u8 0, .int .u8 0, .int .u8 0, .int .u8 0, .int .u8 0, .int .u8 0, .int .u8 0, .int .u8 0, .int .u8 0, .int .u8 0, .int .u8 0, .int .u8 0, .int .u8 0, .int .u8 0, .map none] 113)).heap[w.heap.size + 1]? = some (.cells #[.int .i16 0, .int .u8 0, .int .u8 0, .int .u8 0, .int .u8 0, .int .u8 0, .int .u8 0, .int .u8 0, .int .u8 0, .int .u8 0, .int .u8 0, .int .u8 0, .int .u8 0, .int .u8 0, .int .u8 0, .int .u8 0, .int .u8 0, .map none] 113) := by
      have h := heap_alloc_new (w.alloc (.cells #[.int .i64 0, .slice none 0 0, .bool false, .slice none 0 0, .slice none 0 0] 42)) (.cells #[.int .i16 0, .int .u8 0, .int .u8 0, .int .u8 0, .int .u8 0, .int .u8 0, .int .u8 0, .int .u8 0, .int .u8 0, .int .u8 0, .int .u8 0, .int .u8 0, .int .u8 0, .int .u8 0, .int .u8 0, .int .u8 0, .int .u8 0, .map none] 113)
      simpa using h
    have hc0 := cellOf hu0 0 (.int .i16 0) rfl
    have hf0 := freeOf hu0 0
    clear hu0
    have SV := gts_setv (v := v) hc0 hf0
    go_upto_region 3 with (first
      | (go_at_call 51; refine (gts_new _).mono ?_; rintro e w1 ⟨rfl, rfl⟩)
      | (go_at_call 53; go_loud (refine SV.mono ?_; rintro e w1 ⟨rfl, rfl⟩)))
    clear SV hc0 hf0
    generalize ((w.alloc (.cells #[.int .i64 0, .slice none 0 0, .bool false, .slice none 0 0, .slice none 0 0] 42)).alloc (.cells #[.int .i16 v, .int .u8 0, .int .u8 0, .int .u8 0, .int .u8 0, .int .u8 0, .int .u8 0, .int .u8 0, .int .u8 0, .int .u8 0, .int .u8 0, .int .u8 0, .int .u8 0, .int .u8 0, .int .u8 0, .int .u8 0, .int .u8 0, .map none] 113)) = W0 at *
    have H0 : Hid _ := h0
    have H1 : Hid _ := h1
    clear h0 h1
    go_wp2_with (first
      | (at_builtin; go_loud (refine app_ob rfl (.const (.slice none 0 0)) (.tmp 13) rfl W0.heap.size (.slice none 0 0) [] rfl (OB.nil _ _) _ l G rfl (hl.keepF (hG.same k0) (fun _ h => h)) (by simp; omega) (Nat.le_refl _) ?_; intro v2 w2 hown hgr; have k2 : Keep [] W0 w2 := (Keep.refl _ _).grown hgr (by simp [Value.ownBlock]); have K2 := k0.trans k2; have hz2 := k2.size; have b2 := (k2.block (w.heap.size + 1) (by omega) (by simp)).trans H1.out; have hB2 : RB w2 (fun k => W0.heap.size ≤ k ∧ k < w2.heap.size) v2 l := hown.rb; have RF := gts_ReadFrom b2 hB2 (fun k h => h.2) (by omega) (hg.keep K2 List.not_mem_nil) (by omega) hv.1; clear b2))
      | (go_at_call 54; go_loud (refine RF.mono ?_; rintro e w3 ⟨rfl, tv, b3, mp3, k3⟩; rw [hbad, errV_true]; have hz3 := k3.size; have r3 := (k3.block (w.heap.size) (by omega) (by simp)).trans ((k2.block (w.heap.size) (by omega) (by simp)).trans H0.out); have p0 : w3.cell? ⟨w.heap.size, 0, none⟩ = some (.int .i64 0) := cellOf r3 0 _ rfl; have pf0 := freeOf r3 0; have p1 : w3.cell? ⟨w.heap.size, 1, none⟩ = some (.slice none 0 0) := cellOf r3 1 _ rfl; have pf1 := freeOf r3 1; have p2 : w3.cell? ⟨w.heap.size, 2, none⟩ = some (.bool false) := cellOf r3 2 _ rfl; have pf2 := freeOf r3 2; have p3 : w3.cell? ⟨w.heap.size, 3, none⟩ = some (.slice none 0 0) := cellOf r3 3 _ rfl; have pf3 := freeOf r3 3; have p4 : w3.cell? ⟨w.heap.size, 4, none⟩ = some (.slice none 0 0) := cellOf r3 4 _ rfl; have pf4 := freeOf r3 4; have R3 : Hid _ := r3; clear r3 b3)))
    have hr : (((((w3.setCell ⟨w.heap.size, 0, none⟩ (.int .i64 0)).setCell ⟨w.heap.size, 1, none⟩ (.slice none 0 0)).setCell ⟨w.heap.size, 2, none⟩ (.bool false)).setCell ⟨w.heap.size, 3, none⟩ (.slice none 0 0)).setCell ⟨w.heap.size, 4, none⟩ (.slice none 0 0)).heap[w.heap.size]? = some (.cells #[.int .i64 0, .slice none 0 0, .bool false, .slice none 0 0, .slice none 0 0] 42 (0, 0)) := (set5 (o := 0) R3.out).1
    have kr : Keep [w.heap.size] w3 (((((w3.setCell ⟨w.heap.size, 0, none⟩ (.int .i64 0)).setCell ⟨w.heap.size, 1, none⟩ (.slice none 0 0)).setCell ⟨w.heap.size, 2, none⟩ (.bool false)).setCell ⟨w.heap.size, 3, none⟩ (.slice none 0 0)).setCell ⟨w.heap.size, 4, none⟩ (.slice none 0 0)) := (set5 (o := 0) R3.out).2
    clear p0 pf0 p1 pf1 p2 pf2 p3 pf3 p4 pf4
    generalize (((((w3.setCell ⟨w.heap.size, 0, none⟩ (.int .i64 0)).setCell ⟨w.heap.size, 1, none⟩ (.slice none 0 0)).setCell ⟨w.heap.size, 2, none⟩ (.bool false)).setCell ⟨w.heap.size, 3, none⟩ (.slice none 0 0)).setCell ⟨w.heap.size, 4, none⟩ (.slice none 0 0)) = W7 at *
    have r0 : W7.cell? ⟨w.heap.size, 0, none⟩ = some (.int .i64 0) := cellOf hr 0 _ rfl
    have r1 : W7.cell? ⟨w.heap.size, 1, none⟩ = some (.slice none 0 0) := cellOf hr 1 _ rfl
    have r2 : W7.cell? ⟨w.heap.size, 2, none⟩ = some (.bool false) := cellOf hr 2 _ rfl
    have r3 : W7.cell? ⟨w.heap.size, 3, none⟩ = some (.slice none 0 0) := cellOf hr 3 _ rfl
    have r4 : W7.cell? ⟨w.heap.size, 4, none⟩ = some (.slice none 0 0) := cellOf hr 4 _ rfl
    have K7 : Keep [] w W7 := (((K2.weaken (B := [w.heap.size, w.heap.size + 1]) (by simp)).trans ((k3.weaken (by simp)).trans (kr.weaken (by simp))))).fresh (by simp)
    refine bodyPost_ret (v := .tuple #[.agg #[.int .i64 0, .slice none 0 0, .bool false, .slice none 0 0, .slice none 0 0], .bool false]) (by simp [results, Tryd.results19, go_sem, r0, r1, r2, r3, r4]) rfl ⟨[.int .i64 0, .slice none 0 0, .bool false, .slice none 0 0, .slice none 0 0], rfl, HT.zero _ _, K7⟩
set_option maxHeartbeats 1000000 in
set_option maxRecDepth 100000 in
theorem gts_Unsafe {G : Nat → Prop} {p : Addr} {l : Bs} {src : Value} {w : World} {v : Int} (hv : 0 ≤ v ∧ v ≤ 0) (hl : RB w G src l) (hll : l.length ≤ 1000) (hG : There G w) (hg : Gl w p) :
    Calls Tryd.prog 20 #[.int .i64 v, src] w fun e w' => ∃ c, e = .returned (.tuple #[.agg c.toArray, .bool (!(gtsRT v l).2.2)]) ∧ HT w' (New (fun _ => False) w w') (if (gtsRT v l).2.2 then T.zero else gtsT v l) c ∧ Keep [] w w' := by
  obtain ⟨ao, cap, rfl⟩ := RS.shape hl
  have hp1 : 0 < w.heap.size := World.block_lt_of_cell? w _ hg
  have hwr : IntKind.i16.wrap v = v := by rw [wrap_i16']; split <;> omega
  have hlen := gts_len v l
  cases hbad : (gtsRT v l).2.2
  · rw [if_neg Bool.false_ne_true]
    go_enter Tryd.func20, Tryd.ntmps20
    have k0 : Keep [] w ((w.alloc (.cells #[.int .i64 0, .slice none 0 0, .bool false, .slice none 0 0, .slice none 0 0] 42)).alloc (.cells #[.int .i16 v, .int .u8 0, .int .u8 0, .int .u8 0, .int .u8 0, .int .u8 0, .int .u8 0, .int .u8 0, .int .u8 0, .int .u8 0, .int .u8 0, .int .u8 0, .int .u8 0, .int .u8 0, .int .u8 0, .int .u8 0, .int .u8 0, .map none] 113)) := (keep_box (A := []) _).alloc _
    have h0 : ((w.alloc (.cells #[.int .i64 0, .slice none 0 0, .bool false, .slice none 0 0, .slice none 0 0] 42)).alloc (.cells #[.int .i16 v, .int .u8 0, .int .u8 0, .int .u8 0, .int .u8 0, .int .u8 0, .int .u8 0, .int .u8 0, .int .u8 0, .int .u8 0, .int .u8 0, .int .u8 0, .int .u8 0, .int .u8 0, .int .u8 0, .int .u8 0, .int .u8 0, .map none] 113)).heap[w.heap.size]? = some (.cells #[.int .i64 0, .slice none 0 0, .bool false, .slice none 0 0, .slice none 0 0] 42) := ((keep_box (A := []) _).block w.heap.size (by simp) (by simp)).trans (heap_alloc_new w (.cells #[.int .i64 0, .slice none 0 0, .bool false, .slice none 0 0, .slice none 0 0] 42))
    have h1 : ((w.alloc (.cells #[.int .i64 0, .slice none 0 0, .bool false, .slice none 0 0, .slice none 0 0] 42)).alloc (.cells #[.int .i16 v, .int .u8 0, .int .u8 0, .int .u8 0, .int .u8 0, .int .u8 0, .int .u8 0, .int .u8 0, .int .u8 0, .int .u8 0, .int .u8 0, .int .u8 0, .int .u8 0, .int .u8 0, .int .u8 0, .int .u8 0, .int .u8 0, .map none] 113)).heap[w.heap.size + 1]? = some (.cells #[.int .i16 v, .int .u8 0, .int .u8 0, .int .u8 0, .int .u8 0, .int .u8 0, .int .u8 0, .int .u8 0, .int .u8 0, .int .u8 0, .int .u8 0, .int .u8 0, .int .u8 0, .int .u8 0, .int .u8 0, .int .u8 0, .int .u8 0, .map none] 113) := by
      have h := heap_alloc_new (w.alloc (.cells #[.int .i64 0, .slice none 0 0, .bool false, .slice none 0 0, .slice none 0 0] 42)) (.cells #[.int .i16 v, .int .u8 0, .int .u8 0, .int .u8 0, .int .u8 0, .int .u8 0, .int .u8 0, .int .u8 0, .int .u8 0, .int .u8 0, .int .u8 0, .int .u8 0, .int .u8 0, .int .u8 0, .int .u8 0, .int .u8 0, .int .u8 0, .map none] 113)
      simpa using h
    have hz0 : ((w.alloc (.cells #[.int .i64 0, .slice none 0 0, .bool false, .slice none 0 0, .slice none 0 0] 42)).alloc (.cells #[.int .i16 v, .int .u8 0, .int .u8 0, .int .u8 0, .int .u8 0, .int .u8 0, .int .u8 0, .int .u8 0, .int .u8 0, .int .u8 0, .int .u8 0, .int .u8 0, .int .u8 0, .int .u8 0, .int .u8 0, .int .u8 0, .int .u8 0, .map none] 113)).heap.size = w.heap.size + 2 := by simp
    have hu0 : ((w.alloc (.cells #[.int .i64 0, .slice none 0 0, .bool false, .slice none 0 0, .slice none 0 0] 42)).alloc (.cells #[.int .i16 0, .int .u8 0, .int .u8 0, .int .u8 0, .int .u8 0, .int .u8 0, .int .u8 0, .int .u8 0, .int .u8 0, .int .u8 0, .int .u8 0, .int .u8 0, .int .u8 0, .int .u8 0, .int .u8 0, .int .u8 0, .int .u8 0, .map none] 113)).heap[w.heap.size + 1]? = some (.cells #[.int .i16 0, .int .u8 0, .int .u8 0, .int .u8 0, .int .u8 0, .int .u8 0, .int .u8 0, .int .u8 0, .int .u8 0, .int .u8 0, .int .u8 0, .int .u8 0, .int .u8 0, .int .u8 0, .int .u8 0, .int .u8 0, .int .u8 0, .map none] 113) := by
      have h := heap_alloc_new (w.alloc (.cells #[.int .i64 0, .slice none 0 0, .bool false, .slice none 0 0, .slice none 0 0] 42)) (.cells #[.int .i16 0, .int .u8 0, .int .u8 0, .int .u8 0, .int .u8 0, .int .u8 0, .int .u8 0, .int .u8 0, .int .u8 0, .int .u8 0, .int .u8 0, .int .u8 0, .int .u8 0, .int .u8 0, .int .u8 0, .int .u8 0, .int .u8 0, .map none] 113)
      simpa using h
    have hc0 := cellOf hu0 0 (.int .i16 0) rfl
    have hf0 := freeOf hu0 0
    clear hu0
    have SV := gts_setv (v := v) hc0 hf0
    go_upto_region 3 with (first
      | (go_at_call 51; refine (gts_new _).mono ?_; rintro e w1 ⟨rfl, rfl⟩)
      | (go_at_call 53; go_loud (refine SV.mono ?_; rintro e w1 ⟨rfl, rfl⟩)))
    clear SV hc0 hf0
    generalize ((w.alloc (.cells #[.int .i64 0, .slice none 0 0, .bool false, .slice none 0 0, .slice none 0 0] 42)).alloc (.cells #[.int .i16 v, .int .u8 0, .int .u8 0, .int .u8 0, .int .u8 0, .int .u8 0, .int .u8 0, .int .u8 0, .int .u8 0, .int .u8 0, .int .u8 0, .int .u8 0, .int .u8 0, .int .u8 0, .int .u8 0, .int .u8 0, .int .u8 0, .map none] 113)) = W0 at *
    have H0 : Hid _ := h0
    have H1 : Hid _ := h1
    clear h0 h1
    go_wp2_with (first
      | (at_builtin; go_loud (refine app_ob rfl (.const (.slice none 0 0)) (.tmp 13) rfl W0.heap.size (.slice none 0 0) [] rfl (OB.nil _ _) _ l G rfl (hl.keepF (hG.same k0) (fun _ h => h)) (by simp; omega) (Nat.le_refl _) ?_; intro v2 w2 hown hgr; have k2 : Keep [] W0 w2 := (Keep.refl _ _).grown hgr (by simp [Value.ownBlock]); have K2 := k0.trans k2; have hz2 := k2.size; have b2 := (k2.block (w.heap.size + 1) (by omega) (by simp)).trans H1.out; have hB2 : RB w2 (fun k => W0.heap.size ≤ k ∧ k < w2.heap.size) v2 l := hown.rb; have RF := gts_UnsafeReadFrom b2 hB2 (fun k h => h.2) (by omega) (hg.keep K2 List.not_mem_nil) (by omega) hv.1; clear b2))
      | (go_at_call 56; go_loud (refine RF.mono ?_; rintro e w3 ⟨rfl, tv, b3, mp3, k3⟩; rw [hbad, errV_false]; have hz3 := k3.size; have r3 := (k3.block (w.heap.size) (by omega) (by simp)).trans ((k2.block (w.heap.size) (by omega) (by simp)).trans H0.out); have TL := gts_tell b3 mp3 (fun k h => h.2) (gts_ul1 _ _) (fun x hx => by have := hlen.2 x hx; omega) (by omega); have R3 : Hid _ := r3; clear r3 b3))
      | (go_at_call 55; go_loud (refine TL.mono ?_; rintro e w4 ⟨c, rfl, hc, k4⟩; obtain ⟨az, ps, al, pl, au, pu, rfl, -⟩ := id hc.cells; simp only [T.n, T.s, T.null, T.l, T.u, List.length_nil, List.length_cons, Nat.zero_add] at hc ⊢; have hz4 := k4.size; have r4 := (k4.block (w.heap.size) (by omega) List.not_mem_nil).trans R3.out; have p0 : w4.cell? ⟨w.heap.size, 0, none⟩ = some (.int .i64 0) := cellOf r4 0 _ rfl; have pf0 := freeOf r4 0; have p1 : w4.cell? ⟨w.heap.size, 1, none⟩ = some (.slice none 0 0) := cellOf r4 1 _ rfl; have pf1 := freeOf r4 1; have p2 : w4.cell? ⟨w.heap.size, 2, none⟩ = some (.bool false) := cellOf r4 2 _ rfl; have pf2 := freeOf r4 2; have p3 : w4.cell? ⟨w.heap.size, 3, none⟩ = some (.slice none 0 0) := cellOf r4 3 _ rfl; have pf3 := freeOf r4 3; have p4 : w4.cell? ⟨w.heap.size, 4, none⟩ = some (.slice none 0 0) := cellOf r4 4 _ rfl; have pf4 := freeOf r4 4; have R4 : Hid _ := r4; clear r4)))
    have hr : (((((w4.setCell ⟨w.heap.size, 0, none⟩ (.int .i64 0)).setCell ⟨w.heap.size, 1, none⟩ (.slice az 0 ps)).setCell ⟨w.heap.size, 2, none⟩ (.bool false)).setCell ⟨w.heap.size, 3, none⟩ (.slice al 1 pl)).setCell ⟨w.heap.size, 4, none⟩ (.slice au (gtsRT v l).1.length pu)).heap[w.heap.size]? = some (.cells #[.int .i64 0, .slice az 0 ps, .bool false, .slice al 1 pl, .slice au (gtsRT v l).1.length pu] 42 (0, 0)) := (set5 (o := 0) R4.out).1
    have kr : Keep [w.heap.size] w4 (((((w4.setCell ⟨w.heap.size, 0, none⟩ (.int .i64 0)).setCell ⟨w.heap.size, 1, none⟩ (.slice az 0 ps)).setCell ⟨w.heap.size, 2, none⟩ (.bool false)).setCell ⟨w.heap.size, 3, none⟩ (.slice al 1 pl)).setCell ⟨w.heap.size, 4, none⟩ (.slice au (gtsRT v l).1.length pu)) := (set5 (o := 0) R4.out).2
    clear p0 pf0 p1 pf1 p2 pf2 p3 pf3 p4 pf4
    generalize (((((w4.setCell ⟨w.heap.size, 0, none⟩ (.int .i64 0)).setCell ⟨w.heap.size, 1, none⟩ (.slice az 0 ps)).setCell ⟨w.heap.size, 2, none⟩ (.bool false)).setCell ⟨w.heap.size, 3, none⟩ (.slice al 1 pl)).setCell ⟨w.heap.size, 4, none⟩ (.slice au (gtsRT v l).1.length pu)) = W7 at *
    have r0 : W7.cell? ⟨w.heap.size, 0, none⟩ = some (.int .i64 0) := cellOf hr 0 _ rfl
    have r1 : W7.cell? ⟨w.heap.size, 1, none⟩ = some (.slice az 0 ps) := cellOf hr 1 _ rfl
    have r2 : W7.cell? ⟨w.heap.size, 2, none⟩ = some (.bool false) := cellOf hr 2 _ rfl
    have r3 : W7.cell? ⟨w.heap.size, 3, none⟩ = some (.slice al 1 pl) := cellOf hr 3 _ rfl
    have r4 : W7.cell? ⟨w.heap.size, 4, none⟩ = some (.slice au (gtsRT v l).1.length pu) := cellOf hr 4 _ rfl
    have K7 : Keep [] w W7 := (((K2.weaken (B := [w.heap.size, w.heap.size + 1]) (by simp)).trans ((k3.weaken (by simp)).trans ((k4.weaken (by simp)).trans (kr.weaken (by simp)))))).fresh (by simp)
    refine bodyPost_ret (v := .tuple #[.agg #[.int .i64 0, .slice az 0 ps, .bool false, .slice al 1 pl, .slice au (gtsRT v l).1.length pu], .bool true]) (by simp [results, Tryd.results20, go_sem, r0, r1, r2, r3, r4]) rfl ⟨[.int .i64 0, .slice az 0 ps, .bool false, .slice al 1 pl, .slice au (gtsRT v l).1.length pu], rfl, ?_, K7⟩
    have hzr := kr.size
    have hc7 := hc.keepF (w' := W7) (G := New (fun _ => False) w W7) (fun k hk => kr.block k hk.2 (by have := hk.1; simp; omega)) (fun k hk => ⟨.inr (by have := hk.1; omega), Nat.lt_of_lt_of_le hk.2 kr.size⟩)
    exact hc7
  · rw [if_pos rfl]
    go_enter Tryd.func20, Tryd.ntmps20
    have k0 : Keep [] w ((w.alloc (.cells #[.int .i64 0, .slice none 0 0, .bool false, .slice none 0 0, .slice none 0 0] 42)).alloc (.cells #[.int .i16 v, .int .u8 0, .int .u8 0, .int .u8 0, .int .u8 0, .int .u8 0, .int .u8 0, .int .u8 0, .int .u8 0, .int .u8 0, .int .u8 0, .int .u8 0, .int .u8 0, .int .u8 0, .int .u8 0, .int .u8 0, .int .u8 0, .map none] 113)) := (keep_box (A := []) _).alloc _
    have h0 : ((w.alloc (.cells #[.int .i64 0, .slice none 0 0, .bool false, .slice none 0 0, .slice none 0 0] 42)).alloc (.cells #[.int .i16 v, .int .u8 0, .int .u8 0, .int .u8 0, .int .u8 0, .int .u8 0, .int .u8 0, .int .u8 0, .int .u8 0, .int .u8 0, .int .u8 0, .int .u8 0, .int .u8 0, .int .u8 0, .int .u8 0, .int .u8 0, .int .u8 0, .map none] 113)).heap[w.heap.size]? = some (.cells #[.int .i64 0, .slice none 0 0, .bool false, .slice none 0 0, .slice none 0 0] 42) := ((keep_box (A := []) _).block w.heap.size (by simp) (by simp)).trans (heap_alloc_new w (.cells #[.int .i64 0, .slice none 0 0, .bool false, .slice none 0 0, .slice none 0 0] 42))
    have h1 : ((w.alloc (.cells #[.int .i64 0, .slice none 0 0, .bool false, .slice none 0 0, .slice none 0 0] 42)).alloc (.cells #[.int .i16 v, .int .u8 0, .int .u8 0, .int .u8 0, .int .u8 0, .int .u8 0, .int .u8 0, .int .u8 0, .int .u8 0, .int .u8 0, .int .u8 0, .int .u8 0, .int .u8 0, .int .u8 0, .int .u8 0, .int .u8 0, .int .u8 0, .map none] 113)).heap[w.heap.size + 1]? = some (.cells #[.int .i16 v, .int .u8 0, .int .u8 0, .int .u8 0, .int .u8 0, .int .u8 0, .int .u8 0, .int .u8 0, .int .u8 0, .int .u8 0, .int .u8 0, .int .u8 0, .int .u8 0, .int .u8 0, .int .u8 0, .int .u8 0, .int .u8 0, .map none] 113) := by
      have h := heap_alloc_new (w.alloc (.cells #[.int .i64 0, .slice none 0 0, .bool false, .slice none 0 0, .slice none 0 0] 42)) (.cells #[.int .i16 v, .int .u8 0, .int .u8 0, .int .u8 0, .int .u8 0, .int .u8 0, .int .u8 0, .int .u8 0, .int .u8 0, .int .u8 0, .int .u8 0, .int .u8 0, .int .u8 0, .int .u8 0, .int .u8 0, .int .u8 0, .int .u8 0, .map none] 113)
      simpa using h
    have hz0 : ((w.alloc (.cells #[.int .i64 0, .slice none 0 0, .bool false, .slice none 0 0, .slice none 0 0] 42)).alloc (.cells #[.int .i16 v, .int .u8 0, .int .u8 0, .int .u8 0, .int .u8 0, .int .u8 0, .int .u8 0, .int .u8 0, .int .u8 0, .int .u8 0, .int .u8 0, .int .u8 0, .int .u8 0, .int .u8 0, .int .u8 0, .int .u8 0, .int .u8 0, .map none] 113)).heap.size = w.heap.size + 2 := by simp
    have hu0 : ((w.alloc (.cells #[.int .i64 0, .slice none 0 0, .bool false, .slice none 0 0, .slice none 0 0] 42)).alloc (.cells #[.int .i16 0, .int .u8 0, .int .u8 0, .int .u8 0, .int .u8 0, .int .u8 0, .int .u8 0, .int .u8 0, .int .u8 0, .int .u8 0, .int .u8 0, .int .u8 0, .int .u8 0, .int .u8 0, .int .u8 0, .int .u8 0, .int .u8 0, .map none] 113)).heap[w.heap.size + 1]? = some (.cells #[.int .i16 0, .int .u8 0, .int .u8 0, .int .u8 0, .int .u8 0, .int .u8 0, .int .u8 0, .int .u8 0, .int .u8 0, .int .u8 0, .int .u8 0, .int .u8 0, .int .u8 0, .int .u8 0, .int .u8 0, .int .u8 0, .int .u8 0, .map none] 113) := by
      have h := heap_alloc_new (w.alloc (.cells #[.int .i64 0, .slice none 0 0, .bool false, .slice none 0 0, .slice none 0 0] 42)) (.cells #[.int .i16 0, .int .u8 0, .int .u8 0, .int .u8 0, .int .u8 0, .int .u8 0, .int .u8 0, .int .u8 0, .int .u8 0, .int .u8 0, .int .u8 0, .int .u8 0, .int .u8 0, .int .u8 0, .int .u8 0, .int .u8 0, .int .u8 0, .map none] 113)
      simpa using h
    have hc0 := cellOf hu0 0 (.int .i16 0) rfl
    have hf0 := freeOf hu0 0
    clear hu0
    have SV := gts_setv (v := v) hc0 hf0
    go_upto_region 3 with (first
      | (go_at_call 51; refine (gts_new _).mono ?_; rintro e w1 ⟨rfl, rfl⟩)
      | (go_at_call 53; go_loud (refine SV.mono ?_; rintro e w1 ⟨rfl, rfl⟩)))
    clear SV hc0 hf0
    generalize ((w.alloc (.cells #[.int .i64 0, .slice none 0 0, .bool false, .slice none 0 0, .slice none 0 0] 42)).alloc (.cells #[.int .i16 v, .int .u8 0, .int .u8 0, .int .u8 0, .int .u8 0, .int .u8 0, .int .u8 0, .int .u8 0, .int .u8 0, .int .u8 0, .int .u8 0, .int .u8 0, .int .u8 0, .int .u8 0, .int .u8 0, .int .u8 0, .int .u8 0, .map none] 113)) = W0 at *
    have H0 : Hid _ := h0
    have H1 : Hid _ := h1
    clear h0 h1
    go_wp2_with (first
      | (at_builtin; go_loud (refine app_ob rfl (.const (.slice none 0 0)) (.tmp 13) rfl W0.heap.size (.slice none 0 0) [] rfl (OB.nil _ _) _ l G rfl (hl.keepF (hG.same k0) (fun _ h => h)) (by simp; omega) (Nat.le_refl _) ?_; intro v2 w2 hown hgr; have k2 : Keep [] W0 w2 := (Keep.refl _ _).grown hgr (by simp [Value.ownBlock]); have K2 := k0.trans k2; have hz2 := k2.size; have b2 := (k2.block (w.heap.size + 1) (by omega) (by simp)).trans H1.out; have hB2 : RB w2 (fun k => W0.heap.size ≤ k ∧ k < w2.heap.size) v2 l := hown.rb; have RF := gts_UnsafeReadFrom b2 hB2 (fun k h => h.2) (by omega) (hg.keep K2 List.not_mem_nil) (by omega) hv.1; clear b2))
      | (go_at_call 56; go_loud (refine RF.mono ?_; rintro e w3 ⟨rfl, tv, b3, mp3, k3⟩; rw [hbad, errV_true]; have hz3 := k3.size; have r3 := (k3.block (w.heap.size) (by omega) (by simp)).trans ((k2.block (w.heap.size) (by omega) (by simp)).trans H0.out); have p0 : w3.cell? ⟨w.heap.size, 0, none⟩ = some (.int .i64 0) := cellOf r3 0 _ rfl; have pf0 := freeOf r3 0; have p1 : w3.cell? ⟨w.heap.size, 1, none⟩ = some (.slice none 0 0) := cellOf r3 1 _ rfl; have pf1 := freeOf r3 1; have p2 : w3.cell? ⟨w.heap.size, 2, none⟩ = some (.bool false) := cellOf r3 2 _ rfl; have pf2 := freeOf r3 2; have p3 : w3.cell? ⟨w.heap.size, 3, none⟩ = some (.slice none 0 0) := cellOf r3 3 _ rfl; have pf3 := freeOf r3 3; have p4 : w3.cell? ⟨w.heap.size, 4, none⟩ = some (.slice none 0 0) := cellOf r3 4 _ rfl; have pf4 := freeOf r3 4; have R3 : Hid _ := r3; clear r3 b3)))
    have hr : (((((w3.setCell ⟨w.heap.size, 0, none⟩ (.int .i64 0)).setCell ⟨w.heap.size, 1, none⟩ (.slice none 0 0)).setCell ⟨w.heap.size, 2, none⟩ (.bool false)).setCell ⟨w.heap.size, 3, none⟩ (.slice none 0 0)).setCell ⟨w.heap.size, 4, none⟩ (.slice none 0 0)).heap[w.heap.size]? = some (.cells #[.int .i64 0, .slice none 0 0, .bool false, .slice none 0 0, .slice none 0 0] 42 (0, 0)) := (set5 (o := 0) R3.out).1
    have kr : Keep [w.heap.size] w3 (((((w3.setCell ⟨w.heap.size, 0, none⟩ (.int .i64 0)).setCell ⟨w.heap.size, 1, none⟩ (.slice none 0 0)).setCell ⟨w.heap.size, 2, none⟩ (.bool false)).setCell ⟨w.heap.size, 3, none⟩ (.slice none 0 0)).setCell ⟨w.heap.size, 4, none⟩ (.slice none 0 0)) := (set5 (o := 0) R3.out).2
    clear p0 pf0 p1 pf1 p2 pf2 p3 pf3 p4 pf4
    generalize (((((w3.setCell ⟨w.heap.size, 0, none⟩ (.int .i64 0)).setCell ⟨w.heap.size, 1, none⟩ (.slice none 0 0)).setCell ⟨w.heap.size, 2, none⟩ (.bool false)).setCell ⟨w.heap.size, 3, none⟩ (.slice none 0 0)).setCell ⟨w.heap.size, 4, none⟩ (.slice none 0 0)) = W7 at *
    have r0 : W7.cell? ⟨w.heap.size, 0, none⟩ = some (.int .i64 0) := cellOf hr 0 _ rfl
    have r1 : W7.cell? ⟨w.heap.size, 1, none⟩ = some (.slice none 0 0) := cellOf hr 1 _ rfl
    have r2 : W7.cell? ⟨w.heap.size, 2, none⟩ = some (.bool false) := cellOf hr 2 _ rfl
    have r3 : W7.cell? ⟨w.heap.size, 3, none⟩ = some (.slice none 0 0) := cellOf hr 3 _ rfl
    have r4 : W7.cell? ⟨w.heap.size, 4, none⟩ = some (.slice none 0 0) := cellOf hr 4 _ rfl
    have K7 : Keep [] w W7 := (((K2.weaken (B := [w.heap.size, w.heap.size + 1]) (by simp)).trans ((k3.weaken (by simp)).trans (kr.weaken (by simp))))).fresh (by simp)
    refine bodyPost_ret (v := .tuple #[.agg #[.int .i64 0, .slice none 0 0, .bool false, .slice none 0 0, .slice none 0 0], .bool false]) (by simp [results, Tryd.results20, go_sem, r0, r1, r2, r3, r4]) rfl ⟨[.int .i64 0, .slice none 0 0, .bool false, .slice none 0 0, .slice none 0 0], rfl, HT.zero _ _, K7⟩
end Go.Proofs.YtnemimighhpcaaaDoor
