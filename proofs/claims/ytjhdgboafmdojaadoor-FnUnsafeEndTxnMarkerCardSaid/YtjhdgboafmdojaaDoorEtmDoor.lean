/-
  impl's two doors of EndTxnMarker.
-/
import Derived.Test.YtjhdgboafmdojaaDoorEtm
namespace Go.Proofs.YtjhdgboafmdojaaDoor
open Go.ChangeShapes Go.WideShapes Go.ChangeAt Go.RowKit

/-- what is told -/
def etmT (l : Bs) : T := .mk (etm1 l).1 [] false [.mk (etm2 l).1 [] false [] []] []
set_option maxHeartbeats 1000000 in
set_option maxRecDepth 100000 in
theorem etm_Tell {G : Nat → Prop} {p : Addr} {l : Bs} {src : Value} {w : World} (hl : RB w G src l) (hll : l.length ≤ 1099511627776) (hG : There G w) (hg : Gl w p) :
    Calls Tryd.prog 5 #[src] w fun e w' => ∃ c, e = .returned (.tuple #[.agg c.toArray, .bool (!(etm2 l).2.2)]) ∧ HT w' (New (fun _ => False) w w') (if (etm2 l).2.2 then T.zero else etmT l) c ∧ Keep [] w w' := by
  obtain ⟨ao, cap, rfl⟩ := RS.shape hl
  go_enter Tryd.func5, Tryd.ntmps5
  have hR1 : -32768 ≤ (etm1 l).1 := (rdI_range2 _).1
  have hR2 : (etm1 l).1 ≤ 32767 := (rdI_range2 _).2
  cases hbad : (etm2 l).2.2
  · go_wp2_with (first
      | (go_at_call 18; go_loud (refine (etm_new _).mono ?_; rintro e w1 ⟨rfl, k1⟩; have hs1 : w.heap.size + 1 ≤ w1.heap.size := (by have := k1.size; simpa using this); have hr1 := oneBox k1; have K1 : Keep [] w (w1.alloc (.cells #[.int .i16 0, .int .i32 0] 50)) := ((keep_box _).trans k1).alloc _))
      | (at_builtin; go_loud (refine app_ob rfl (.const (.slice none 0 0)) (.tmp 7) rfl (w1.heap.size + 1) (.slice none 0 0) [] rfl (OB.nil _ _) _ l G rfl (hl.keepF (hG.same K1) (fun _ h => h)) (by simp; omega) (by simp) ?_; intro v' w2 hown hgr))
      | (go_at_call 19; go_loud (have hv1 := (hgr.block w1.heap.size (by simp) (by simp [Value.ownBlock])).trans (heap_alloc_new w1 (.cells #[.int .i16 0, .int .i32 0] 50)); have hr2 := (hgr.block w.heap.size (by simp; omega) (by simp [Value.ownBlock])).trans ((Below.heap_alloc _ _ _ (by omega)).trans hr1); have HR2 : Hid _ := hr2; clear hr1 hr2; have K2 : Keep [] w w2 := K1.grown hgr (by simp [Value.ownBlock]); have hB2 : RB w2 (fun k => w1.heap.size + 1 ≤ k ∧ k < w2.heap.size) v' l := hown.rb; have hp1 : 1 < w.heap.size := World.block_lt_of_cell? w _ hg; refine (etm_ReadFrom hv1 hB2 (fun k h => h.2) (by omega) (hg.keep K2 List.not_mem_nil) (by omega)).mono ?_; rintro e w3 ⟨rfl, hv3, k3⟩; rw [hbad, errV_false]; clear hv1; have hs2 : w1.heap.size + 1 ≤ w2.heap.size := (by have := hgr.size; simpa using this); have hs3 := k3.size; have hr3 := (k3.block w.heap.size (by omega) (by simp; omega)).trans HR2.out; have HR3 : Hid _ := hr3; clear hr3))
      | (go_at_call 20; go_loud (refine (etm_tell hv3 (rdI_range4 _)).mono ?_; rintro e w4 ⟨c, rfl, hc, k4⟩; obtain ⟨az, ps, al, pl, au, pu, rfl, -⟩ := id hc.cells; simp only [T.n, T.s, T.null, T.l, T.u, List.length_nil, List.length_cons, Nat.zero_add] at hc ⊢; have hs4 := k4.size; have hv4 := (k4.block w1.heap.size (by omega) List.not_mem_nil).trans hv3; have d0 : w4.cell? ⟨w1.heap.size, 0, none⟩ = some (.int .i16 (etm1 l).1) := cellOf hv4 0 _ rfl; have hlt1 : w1.heap.size < w4.heap.size := (by omega); have hr4 := (k4.block w.heap.size (by omega) List.not_mem_nil).trans HR3.out; have p0 : w4.cell? ⟨w.heap.size, 0, none⟩ = some (.int .i64 0) := cellOf hr4 0 _ rfl; have p1 : w4.cell? ⟨w.heap.size, 1, none⟩ = some (.slice none 0 0) := cellOf hr4 1 _ rfl; have p2 : w4.cell? ⟨w.heap.size, 2, none⟩ = some (.bool false) := cellOf hr4 2 _ rfl; have p3 : w4.cell? ⟨w.heap.size, 3, none⟩ = some (.slice none 0 0) := cellOf hr4 3 _ rfl; have p4 : w4.cell? ⟨w.heap.size, 4, none⟩ = some (.slice none 0 0) := cellOf hr4 4 _ rfl; have f0 := freeOf hr4 0; have f1 := freeOf hr4 1; have f2 := freeOf hr4 2; have f3 := freeOf hr4 3; have f4 := freeOf hr4 4; have hlt0 : w.heap.size < w4.heap.size := (by omega); have HR4 : Hid _ := hr4; clear hv3 hv4 hr4)))
    obtain ⟨hr, kr⟩ := set5 (z := .int .i64 (etm1 l).1) (s := .slice az 0 ps) (n := .bool false) (l := .slice al 1 pl) (u := .slice au 0 pu) (o := 0) HR4.out
    clear p0 p1 p2 p3 p4 f0 f1 f2 f3 f4 d0
    generalize (((((w4.setCell ⟨w.heap.size, 0, none⟩ (.int .i64 (etm1 l).1)).setCell ⟨w.heap.size, 1, none⟩ (.slice az 0 ps)).setCell ⟨w.heap.size, 2, none⟩ (.bool false)).setCell ⟨w.heap.size, 3, none⟩ (.slice al 1 pl)).setCell ⟨w.heap.size, 4, none⟩ (.slice au 0 pu)) = W6 at *
    generalize hW7 : W6.alloc _ = W7
    have kw : Keep [w.heap.size] w4 W7 := by rw [← hW7]; exact kr.alloc _
    have hr7 := (congrArg (fun z : World => z.heap[w.heap.size]?) hW7.symm).trans ((Below.heap_alloc _ _ _ (World.heap_lt hr)).trans hr)
    have r0 : W7.cell? ⟨w.heap.size, 0, none⟩ = some (.int .i64 (etm1 l).1) := cellOf hr7 0 _ rfl
    have r1 : W7.cell? ⟨w.heap.size, 1, none⟩ = some (.slice az 0 ps) := cellOf hr7 1 _ rfl
    have r2 : W7.cell? ⟨w.heap.size, 2, none⟩ = some (.bool false) := cellOf hr7 2 _ rfl
    have r3 : W7.cell? ⟨w.heap.size, 3, none⟩ = some (.slice al 1 pl) := cellOf hr7 3 _ rfl
    have r4 : W7.cell? ⟨w.heap.size, 4, none⟩ = some (.slice au 0 pu) := cellOf hr7 4 _ rfl
    have K7 : Keep [] w W7 := (((K2.weaken (B := [w.heap.size, w1.heap.size]) (by simp)).trans ((k3.weaken (by simp)).trans ((k4.weaken (by simp)).trans (kw.weaken (by simp)))))).fresh (by simp; omega)
    refine bodyPost_ret (v := .tuple #[.agg #[.int .i64 (etm1 l).1, .slice az 0 ps, .bool false, .slice al 1 pl, .slice au 0 pu], .bool true]) (by simp [results, Tryd.results5, go_sem, r0, r1, r2, r3, r4]) rfl ⟨[.int .i64 (etm1 l).1, .slice az 0 ps, .bool false, .slice al 1 pl, .slice au 0 pu], rfl, ?_, K7⟩
    have hc7 := hc.keepF (w' := W7) (G := New (fun _ => False) w W7) (fun k hk => kw.block k hk.2 (by simp; omega)) (fun k hk => ⟨.inr (by omega), Nat.lt_of_lt_of_le hk.2 kw.size⟩)
    obtain ⟨_, _, _, e, h1, h2, h3, _⟩ := hc7.parts
    cases e
    exact HT.of _ [] false _ [] h1 h2 h3 (by omega) (by omega) (by simp) (by simp)
  · go_wp2_with (first
      | (go_at_call 18; go_loud (refine (etm_new _).mono ?_; rintro e w1 ⟨rfl, k1⟩; have hs1 : w.heap.size + 1 ≤ w1.heap.size := (by have := k1.size; simpa using this); have hr1 := oneBox k1; have K1 : Keep [] w (w1.alloc (.cells #[.int .i16 0, .int .i32 0] 50)) := ((keep_box _).trans k1).alloc _))
      | (at_builtin; go_loud (refine app_ob rfl (.const (.slice none 0 0)) (.tmp 7) rfl (w1.heap.size + 1) (.slice none 0 0) [] rfl (OB.nil _ _) _ l G rfl (hl.keepF (hG.same K1) (fun _ h => h)) (by simp; omega) (by simp) ?_; intro v' w2 hown hgr))
      | (go_at_call 19; go_loud (have hv1 := (hgr.block w1.heap.size (by simp) (by simp [Value.ownBlock])).trans (heap_alloc_new w1 (.cells #[.int .i16 0, .int .i32 0] 50)); have hr2 := (hgr.block w.heap.size (by simp; omega) (by simp [Value.ownBlock])).trans ((Below.heap_alloc _ _ _ (by omega)).trans hr1); have HR2 : Hid _ := hr2; clear hr1 hr2; have K2 : Keep [] w w2 := K1.grown hgr (by simp [Value.ownBlock]); have hB2 : RB w2 (fun k => w1.heap.size + 1 ≤ k ∧ k < w2.heap.size) v' l := hown.rb; have hp1 : 1 < w.heap.size := World.block_lt_of_cell? w _ hg; refine (etm_ReadFrom hv1 hB2 (fun k h => h.2) (by omega) (hg.keep K2 List.not_mem_nil) (by omega)).mono ?_; rintro e w3 ⟨rfl, hv3, k3⟩; rw [hbad, errV_true]; clear hv1 hv3; have hs2 : w1.heap.size + 1 ≤ w2.heap.size := (by have := hgr.size; simpa using this); have hs3 := k3.size; have hr3 := (k3.block w.heap.size (by omega) (by simp; omega)).trans HR2.out; have p0 : w3.cell? ⟨w.heap.size, 0, none⟩ = some (.int .i64 0) := cellOf hr3 0 _ rfl; have p1 : w3.cell? ⟨w.heap.size, 1, none⟩ = some (.slice none 0 0) := cellOf hr3 1 _ rfl; have p2 : w3.cell? ⟨w.heap.size, 2, none⟩ = some (.bool false) := cellOf hr3 2 _ rfl; have p3 : w3.cell? ⟨w.heap.size, 3, none⟩ = some (.slice none 0 0) := cellOf hr3 3 _ rfl; have p4 : w3.cell? ⟨w.heap.size, 4, none⟩ = some (.slice none 0 0) := cellOf hr3 4 _ rfl; have f0 := freeOf hr3 0; have f1 := freeOf hr3 1; have f2 := freeOf hr3 2; have f3 := freeOf hr3 3; have f4 := freeOf hr3 4; have HR3 : Hid _ := hr3; clear hr3)))
    obtain ⟨hr, kr⟩ := set5 (z := .int .i64 0) (s := .slice none 0 0) (n := .bool false) (l := .slice none 0 0) (u := .slice none 0 0) (o := 0) HR3.out
    clear p0 p1 p2 p3 p4 f0 f1 f2 f3 f4
    generalize (((((w3.setCell ⟨w.heap.size, 0, none⟩ (.int .i64 0)).setCell ⟨w.heap.size, 1, none⟩ (.slice none 0 0)).setCell ⟨w.heap.size, 2, none⟩ (.bool false)).setCell ⟨w.heap.size, 3, none⟩ (.slice none 0 0)).setCell ⟨w.heap.size, 4, none⟩ (.slice none 0 0)) = W7 at *
    have r0 : W7.cell? ⟨w.heap.size, 0, none⟩ = some (.int .i64 0) := cellOf hr 0 _ rfl
    have r1 : W7.cell? ⟨w.heap.size, 1, none⟩ = some (.slice none 0 0) := cellOf hr 1 _ rfl
    have r2 : W7.cell? ⟨w.heap.size, 2, none⟩ = some (.bool false) := cellOf hr 2 _ rfl
    have r3 : W7.cell? ⟨w.heap.size, 3, none⟩ = some (.slice none 0 0) := cellOf hr 3 _ rfl
    have r4 : W7.cell? ⟨w.heap.size, 4, none⟩ = some (.slice none 0 0) := cellOf hr 4 _ rfl
    have K7 : Keep [] w W7 := (((K2.weaken (B := [w.heap.size, w1.heap.size]) (by simp)).trans ((k3.weaken (by simp)).trans (kr.weaken (by simp))))).fresh (by simp; omega)
    refine bodyPost_ret (v := .tuple #[.agg #[.int .i64 0, .slice none 0 0, .bool false, .slice none 0 0, .slice none 0 0], .bool false]) (by simp [results, Tryd.results5, go_sem, r0, r1, r2, r3, r4]) rfl ⟨[.int .i64 0, .slice none 0 0, .bool false, .slice none 0 0, .slice none 0 0], rfl, HT.zero _ _, K7⟩
set_option maxHeartbeats 1000000 in
set_option maxRecDepth 100000 in
theorem etm_Unsafe {G : Nat → Prop} {p : Addr} {l : Bs} {src : Value} {w : World} (hl : RB w G src l) (hll : l.length ≤ 1099511627776) (hG : There G w) (hg : Gl w p) :
    Calls Tryd.prog 8 #[src] w fun e w' => ∃ c, e = .returned (.tuple #[.agg c.toArray, .bool (!(etm2 l).2.2)]) ∧ HT w' (New (fun _ => False) w w') (if (etm2 l).2.2 then T.zero else etmT l) c ∧ Keep [] w w' := by
  obtain ⟨ao, cap, rfl⟩ := RS.shape hl
  go_enter Tryd.func8, Tryd.ntmps8
  have hR1 : -32768 ≤ (etm1 l).1 := (rdI_range2 _).1
  have hR2 : (etm1 l).1 ≤ 32767 := (rdI_range2 _).2
  cases hbad : (etm2 l).2.2
  · go_wp2_with (first
      | (go_at_call 18; go_loud (refine (etm_new _).mono ?_; rintro e w1 ⟨rfl, k1⟩; have hs1 : w.heap.size + 1 ≤ w1.heap.size := (by have := k1.size; simpa using this); have hr1 := oneBox k1; have K1 : Keep [] w (w1.alloc (.cells #[.int .i16 0, .int .i32 0] 50)) := ((keep_box _).trans k1).alloc _))
      | (at_builtin; go_loud (refine app_ob rfl (.const (.slice none 0 0)) (.tmp 7) rfl (w1.heap.size + 1) (.slice none 0 0) [] rfl (OB.nil _ _) _ l G rfl (hl.keepF (hG.same K1) (fun _ h => h)) (by simp; omega) (by simp) ?_; intro v' w2 hown hgr))
      | (go_at_call 22; go_loud (have hv1 := (hgr.block w1.heap.size (by simp) (by simp [Value.ownBlock])).trans (heap_alloc_new w1 (.cells #[.int .i16 0, .int .i32 0] 50)); have hr2 := (hgr.block w.heap.size (by simp; omega) (by simp [Value.ownBlock])).trans ((Below.heap_alloc _ _ _ (by omega)).trans hr1); have HR2 : Hid _ := hr2; clear hr1 hr2; have K2 : Keep [] w w2 := K1.grown hgr (by simp [Value.ownBlock]); have hB2 : RB w2 (fun k => w1.heap.size + 1 ≤ k ∧ k < w2.heap.size) v' l := hown.rb; have hp1 : 1 < w.heap.size := World.block_lt_of_cell? w _ hg; refine (etm_UnsafeReadFrom hv1 hB2 (fun k h => h.2) (by omega) (hg.keep K2 List.not_mem_nil) (by omega)).mono ?_; rintro e w3 ⟨rfl, hv3, k3⟩; rw [hbad, errV_false]; clear hv1; have hs2 : w1.heap.size + 1 ≤ w2.heap.size := (by have := hgr.size; simpa using this); have hs3 := k3.size; have hr3 := (k3.block w.heap.size (by omega) (by simp; omega)).trans HR2.out; have HR3 : Hid _ := hr3; clear hr3))
      | (go_at_call 20; go_loud (refine (etm_tell hv3 (rdI_range4 _)).mono ?_; rintro e w4 ⟨c, rfl, hc, k4⟩; obtain ⟨az, ps, al, pl, au, pu, rfl, -⟩ := id hc.cells; simp only [T.n, T.s, T.null, T.l, T.u, List.length_nil, List.length_cons, Nat.zero_add] at hc ⊢; have hs4 := k4.size; have hv4 := (k4.block w1.heap.size (by omega) List.not_mem_nil).trans hv3; have d0 : w4.cell? ⟨w1.heap.size, 0, none⟩ = some (.int .i16 (etm1 l).1) := cellOf hv4 0 _ rfl; have hlt1 : w1.heap.size < w4.heap.size := (by omega); have hr4 := (k4.block w.heap.size (by omega) List.not_mem_nil).trans HR3.out; have p0 : w4.cell? ⟨w.heap.size, 0, none⟩ = some (.int .i64 0) := cellOf hr4 0 _ rfl; have p1 : w4.cell? ⟨w.heap.size, 1, none⟩ = some (.slice none 0 0) := cellOf hr4 1 _ rfl; have p2 : w4.cell? ⟨w.heap.size, 2, none⟩ = some (.bool false) := cellOf hr4 2 _ rfl; have p3 : w4.cell? ⟨w.heap.size, 3, none⟩ = some (.slice none 0 0) := cellOf hr4 3 _ rfl; have p4 : w4.cell? ⟨w.heap.size, 4, none⟩ = some (.slice none 0 0) := cellOf hr4 4 _ rfl; have f0 := freeOf hr4 0; have f1 := freeOf hr4 1; have f2 := freeOf hr4 2; have f3 := freeOf hr4 3; have f4 := freeOf hr4 4; have hlt0 : w.heap.size < w4.heap.size := (by omega); have HR4 : Hid _ := hr4; clear hv3 hv4 hr4)))
    obtain ⟨hr, kr⟩ := set5 (z := .int .i64 (etm1 l).1) (s := .slice az 0 ps) (n := .bool false) (l := .slice al 1 pl) (u := .slice au 0 pu) (o := 0) HR4.out
    clear p0 p1 p2 p3 p4 f0 f1 f2 f3 f4 d0
    generalize (((((w4.setCell ⟨w.heap.size, 0, none⟩ (.int .i64 (etm1 l).1)).setCell ⟨w.heap.size, 1, none⟩ (.slice az 0 ps)).setCell ⟨w.heap.size, 2, none⟩ (.bool false)).setCell ⟨w.heap.size, 3, none⟩ (.slice al 1 pl)).setCell ⟨w.heap.size, 4, none⟩ (.slice au 0 pu)) = W6 at *
    generalize hW7 : W6.alloc _ = W7
    have kw : Keep [w.heap.size] w4 W7 := by rw [← hW7]; exact kr.alloc _
    have hr7 := (congrArg (fun z : World => z.heap[w.heap.size]?) hW7.symm).trans ((Below.heap_alloc _ _ _ (World.heap_lt hr)).trans hr)
    have r0 : W7.cell? ⟨w.heap.size, 0, none⟩ = some (.int .i64 (etm1 l).1) := cellOf hr7 0 _ rfl
    have r1 : W7.cell? ⟨w.heap.size, 1, none⟩ = some (.slice az 0 ps) := cellOf hr7 1 _ rfl
    have r2 : W7.cell? ⟨w.heap.size, 2, none⟩ = some (.bool false) := cellOf hr7 2 _ rfl
    have r3 : W7.cell? ⟨w.heap.size, 3, none⟩ = some (.slice al 1 pl) := cellOf hr7 3 _ rfl
    have r4 : W7.cell? ⟨w.heap.size, 4, none⟩ = some (.slice au 0 pu) := cellOf hr7 4 _ rfl
    have K7 : Keep [] w W7 := (((K2.weaken (B := [w.heap.size, w1.heap.size]) (by simp)).trans ((k3.weaken (by simp)).trans ((k4.weaken (by simp)).trans (kw.weaken (by simp)))))).fresh (by simp; omega)
    refine bodyPost_ret (v := .tuple #[.agg #[.int .i64 (etm1 l).1, .slice az 0 ps, .bool false, .slice al 1 pl, .slice au 0 pu], .bool true]) (by simp [results, Tryd.results8, go_sem, r0, r1, r2, r3, r4]) rfl ⟨[.int .i64 (etm1 l).1, .slice az 0 ps, .bool false, .slice al 1 pl, .slice au 0 pu], rfl, ?_, K7⟩
    have hc7 := hc.keepF (w' := W7) (G := New (fun _ => False) w W7) (fun k hk => kw.block k hk.2 (by simp; omega)) (fun k hk => ⟨.inr (by omega), Nat.lt_of_lt_of_le hk.2 kw.size⟩)
    obtain ⟨_, _, _, e, h1, h2, h3, _⟩ := hc7.parts
    cases e
    exact HT.of _ [] false _ [] h1 h2 h3 (by omega) (by omega) (by simp) (by simp)
  · go_wp2_with (first
      | (go_at_call 18; go_loud (refine (etm_new _).mono ?_; rintro e w1 ⟨rfl, k1⟩; have hs1 : w.heap.size + 1 ≤ w1.heap.size := (by have := k1.size; simpa using this); have hr1 := oneBox k1; have K1 : Keep [] w (w1.alloc (.cells #[.int .i16 0, .int .i32 0] 50)) := ((keep_box _).trans k1).alloc _))
      | (at_builtin; go_loud (refine app_ob rfl (.const (.slice none 0 0)) (.tmp 7) rfl (w1.heap.size + 1) (.slice none 0 0) [] rfl (OB.nil _ _) _ l G rfl (hl.keepF (hG.same K1) (fun _ h => h)) (by simp; omega) (by simp) ?_; intro v' w2 hown hgr))
      | (go_at_call 22; go_loud (have hv1 := (hgr.block w1.heap.size (by simp) (by simp [Value.ownBlock])).trans (heap_alloc_new w1 (.cells #[.int .i16 0, .int .i32 0] 50)); have hr2 := (hgr.block w.heap.size (by simp; omega) (by simp [Value.ownBlock])).trans ((Below.heap_alloc _ _ _ (by omega)).trans hr1); have HR2 : Hid _ := hr2; clear hr1 hr2; have K2 : Keep [] w w2 := K1.grown hgr (by simp [Value.ownBlock]); have hB2 : RB w2 (fun k => w1.heap.size + 1 ≤ k ∧ k < w2.heap.size) v' l := hown.rb; have hp1 : 1 < w.heap.size := World.block_lt_of_cell? w _ hg; refine (etm_UnsafeReadFrom hv1 hB2 (fun k h => h.2) (by omega) (hg.keep K2 List.not_mem_nil) (by omega)).mono ?_; rintro e w3 ⟨rfl, hv3, k3⟩; rw [hbad, errV_true]; clear hv1 hv3; have hs2 : w1.heap.size + 1 ≤ w2.heap.size := (by have := hgr.size; simpa using this); have hs3 := k3.size; have hr3 := (k3.block w.heap.size (by omega) (by simp; omega)).trans HR2.out; have p0 : w3.cell? ⟨w.heap.size, 0, none⟩ = some (.int .i64 0) := cellOf hr3 0 _ rfl; have p1 : w3.cell? ⟨w.heap.size, 1, none⟩ = some (.slice none 0 0) := cellOf hr3 1 _ rfl; have p2 : w3.cell? ⟨w.heap.size, 2, none⟩ = some (.bool false) := cellOf hr3 2 _ rfl; have p3 : w3.cell? ⟨w.heap.size, 3, none⟩ = some (.slice none 0 0) := cellOf hr3 3 _ rfl; have p4 : w3.cell? ⟨w.heap.size, 4, none⟩ = some (.slice none 0 0) := cellOf hr3 4 _ rfl; have f0 := freeOf hr3 0; have f1 := freeOf hr3 1; have f2 := freeOf hr3 2; have f3 := freeOf hr3 3; have f4 := freeOf hr3 4; have HR3 : Hid _ := hr3; clear hr3)))
    obtain ⟨hr, kr⟩ := set5 (z := .int .i64 0) (s := .slice none 0 0) (n := .bool false) (l := .slice none 0 0) (u := .slice none 0 0) (o := 0) HR3.out
    clear p0 p1 p2 p3 p4 f0 f1 f2 f3 f4
    generalize (((((w3.setCell ⟨w.heap.size, 0, none⟩ (.int .i64 0)).setCell ⟨w.heap.size, 1, none⟩ (.slice none 0 0)).setCell ⟨w.heap.size, 2, none⟩ (.bool false)).setCell ⟨w.heap.size, 3, none⟩ (.slice none 0 0)).setCell ⟨w.heap.size, 4, none⟩ (.slice none 0 0)) = W7 at *
    have r0 : W7.cell? ⟨w.heap.size, 0, none⟩ = some (.int .i64 0) := cellOf hr 0 _ rfl
    have r1 : W7.cell? ⟨w.heap.size, 1, none⟩ = some (.slice none 0 0) := cellOf hr 1 _ rfl
    have r2 : W7.cell? ⟨w.heap.size, 2, none⟩ = some (.bool false) := cellOf hr 2 _ rfl
    have r3 : W7.cell? ⟨w.heap.size, 3, none⟩ = some (.slice none 0 0) := cellOf hr 3 _ rfl
    have r4 : W7.cell? ⟨w.heap.size, 4, none⟩ = some (.slice none 0 0) := cellOf hr 4 _ rfl
    have K7 : Keep [] w W7 := (((K2.weaken (B := [w.heap.size, w1.heap.size]) (by simp)).trans ((k3.weaken (by simp)).trans (kr.weaken (by simp))))).fresh (by simp; omega)
    refine bodyPost_ret (v := .tuple #[.agg #[.int .i64 0, .slice none 0 0, .bool false, .slice none 0 0, .slice none 0 0], .bool false]) (by simp [results, Tryd.results8, go_sem, r0, r1, r2, r3, r4]) rfl ⟨[.int .i64 0, .slice none 0 0, .bool false, .slice none 0 0, .slice none 0 0], rfl, HT.zero _ _, K7⟩
end Go.Proofs.YtjhdgboafmdojaaDoor
