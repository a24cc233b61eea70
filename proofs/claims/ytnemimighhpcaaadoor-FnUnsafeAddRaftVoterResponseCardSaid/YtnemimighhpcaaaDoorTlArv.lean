/-
  AddRaftVoterResponse: telling.
-/
import Derived.Test.YtnemimighhpcaaaDoorRfArv
import Derived.Test.YtnemimighhpcaaaDoorTagArv
import Derived.Test.YtnemimighhpcaaaDoorTxt
namespace Go.Proofs.YtnemimighhpcaaaDoor
open Go.ChangeShapes Go.WideShapes Go.ChangeAt Go.RowKit

theorem arv_make (u : World) : (Instr.makeSlice 39 (.int .i64 3) (.int .i64 3)).run Tryd.prog u = .ok (.slice (some ⟨u.heap.size, 0, none⟩) 3 3) (u.alloc (.cells #[.int .i64 0, .slice none 0 0, .bool false, .slice none 0 0, .slice none 0 0, .int .i64 0, .slice none 0 0, .bool false, .slice none 0 0, .slice none 0 0, .int .i64 0, .slice none 0 0, .bool false, .slice none 0 0, .slice none 0 0] 42)) := by kernel_rfl
set_option maxHeartbeats 1600000 in
set_option maxRecDepth 100000 in
theorem arv_tell {G : Nat → Prop} {b : Nat} {ver : Int} {v1 : Int} {v2 : Int} {v3 : Value} {o3 : Option Bs} {tv : Value} {tags : List Tg} {w : World} (hb : w.heap[b]? = some (.cells #[.int .i16 ver, .int .i32 v1, .int .i16 v2, v3, tv] 134 (0, 0))) (hmp : MP w G tv tags) (hG : There G w) (rg1 : -2147483648 ≤ v1 ∧ v1 ≤ 2147483647) (rg2 : -32768 ≤ v2 ∧ v2 ≤ 32767) (ps3 : PS w G v3 o3) (pl3 : ∀ x, o3 = some x → x.length ≤ 1000000) (ht1 : ∀ x ∈ tags, x.2.length ≤ 1000000) (ht2 : tags.length ≤ 1000000) :
    Calls Tryd.prog 92 #[.pointer (some ⟨b, 0, none⟩)] w fun e w' => ∃ c, e = .returned (.agg c.toArray) ∧ HT w' (fun k => w.heap.size ≤ k ∧ k < w'.heap.size) (.mk 0 [] false [.mk v1 [] false [] [], .mk v2 [] false [] [], nstrT o3] tags) c ∧ Keep [] w w' := by
  have hbl : b < w.heap.size := World.heap_lt hb
  have HB : Hid _ := hb
  clear hb
  have hmk := arv_make
  go_enter Tryd.func92, Tryd.ntmps92
  go_upto_region 2 with fail
  clear hmk
  have K0 : Keep [] w (((w.alloc (.cells #[.int .i64 0, .slice none 0 0, .bool false, .slice none 0 0, .slice none 0 0] 42)).alloc (.cells #[.int .i64 0, .slice none 0 0, .bool false, .slice none 0 0, .slice none 0 0, .int .i64 0, .slice none 0 0, .bool false, .slice none 0 0, .slice none 0 0, .int .i64 0, .slice none 0 0, .bool false, .slice none 0 0, .slice none 0 0] 42)).alloc (.cells #[.int .i64 0, .slice none 0 0, .bool false, .slice (some ⟨w.heap.size + 1, 0, none⟩) 3 3, .slice none 0 0] 42)) := ((keep_box _).alloc _).alloc _
  have h0 : (((w.alloc (.cells #[.int .i64 0, .slice none 0 0, .bool false, .slice none 0 0, .slice none 0 0] 42)).alloc (.cells #[.int .i64 0, .slice none 0 0, .bool false, .slice none 0 0, .slice none 0 0, .int .i64 0, .slice none 0 0, .bool false, .slice none 0 0, .slice none 0 0, .int .i64 0, .slice none 0 0, .bool false, .slice none 0 0, .slice none 0 0] 42)).alloc (.cells #[.int .i64 0, .slice none 0 0, .bool false, .slice (some ⟨w.heap.size + 1, 0, none⟩) 3 3, .slice none 0 0] 42)).heap[w.heap.size]? = some (.cells #[.int .i64 0, .slice none 0 0, .bool false, .slice none 0 0, .slice none 0 0] 42) := (twoBoxes (keep_box (A := []) _)).1
  have h1 : (((w.alloc (.cells #[.int .i64 0, .slice none 0 0, .bool false, .slice none 0 0, .slice none 0 0] 42)).alloc (.cells #[.int .i64 0, .slice none 0 0, .bool false, .slice none 0 0, .slice none 0 0, .int .i64 0, .slice none 0 0, .bool false, .slice none 0 0, .slice none 0 0, .int .i64 0, .slice none 0 0, .bool false, .slice none 0 0, .slice none 0 0] 42)).alloc (.cells #[.int .i64 0, .slice none 0 0, .bool false, .slice (some ⟨w.heap.size + 1, 0, none⟩) 3 3, .slice none 0 0] 42)).heap[w.heap.size + 1]? = some (.cells #[.int .i64 0, .slice none 0 0, .bool false, .slice none 0 0, .slice none 0 0, .int .i64 0, .slice none 0 0, .bool false, .slice none 0 0, .slice none 0 0, .int .i64 0, .slice none 0 0, .bool false, .slice none 0 0, .slice none 0 0] 42) := (twoBoxes (keep_box (A := []) _)).2
  have h2 : (((w.alloc (.cells #[.int .i64 0, .slice none 0 0, .bool false, .slice none 0 0, .slice none 0 0] 42)).alloc (.cells #[.int .i64 0, .slice none 0 0, .bool false, .slice none 0 0, .slice none 0 0, .int .i64 0, .slice none 0 0, .bool false, .slice none 0 0, .slice none 0 0, .int .i64 0, .slice none 0 0, .bool false, .slice none 0 0, .slice none 0 0] 42)).alloc (.cells #[.int .i64 0, .slice none 0 0, .bool false, .slice (some ⟨w.heap.size + 1, 0, none⟩) 3 3, .slice none 0 0] 42)).heap[w.heap.size + 1 + 1]? = some (.cells #[.int .i64 0, .slice none 0 0, .bool false, .slice (some ⟨w.heap.size + 1, 0, none⟩) 3 3, .slice none 0 0] 42) := by
    have h := heap_alloc_new ((w.alloc (.cells #[.int .i64 0, .slice none 0 0, .bool false, .slice none 0 0, .slice none 0 0] 42)).alloc (.cells #[.int .i64 0, .slice none 0 0, .bool false, .slice none 0 0, .slice none 0 0, .int .i64 0, .slice none 0 0, .bool false, .slice none 0 0, .slice none 0 0, .int .i64 0, .slice none 0 0, .bool false, .slice none 0 0, .slice none 0 0] 42)) (.cells #[.int .i64 0, .slice none 0 0, .bool false, .slice (some ⟨w.heap.size + 1, 0, none⟩) 3 3, .slice none 0 0] 42)
    simpa using h
  have z0 : w.heap.size + 1 + 1 + 1 ≤ (((w.alloc (.cells #[.int .i64 0, .slice none 0 0, .bool false, .slice none 0 0, .slice none 0 0] 42)).alloc (.cells #[.int .i64 0, .slice none 0 0, .bool false, .slice none 0 0, .slice none 0 0, .int .i64 0, .slice none 0 0, .bool false, .slice none 0 0, .slice none 0 0, .int .i64 0, .slice none 0 0, .bool false, .slice none 0 0, .slice none 0 0] 42)).alloc (.cells #[.int .i64 0, .slice none 0 0, .bool false, .slice (some ⟨w.heap.size + 1, 0, none⟩) 3 3, .slice none 0 0] 42)).heap.size := by simp
  generalize (((w.alloc (.cells #[.int .i64 0, .slice none 0 0, .bool false, .slice none 0 0, .slice none 0 0] 42)).alloc (.cells #[.int .i64 0, .slice none 0 0, .bool false, .slice none 0 0, .slice none 0 0, .int .i64 0, .slice none 0 0, .bool false, .slice none 0 0, .slice none 0 0, .int .i64 0, .slice none 0 0, .bool false, .slice none 0 0, .slice none 0 0] 42)).alloc (.cells #[.int .i64 0, .slice none 0 0, .bool false, .slice (some ⟨w.heap.size + 1, 0, none⟩) 3 3, .slice none 0 0] 42)) = W0 at *
  have H0 : Hid _ := h0
  have H1 : Hid _ := h1
  have H2 : Hid _ := h2
  clear h0 h1 h2
  have d3 : W0.cell? ⟨w.heap.size + 1 + 1, 3, none⟩ = some (.slice (some ⟨w.heap.size + 1, 0, none⟩) 3 3) := cellOf H2.out 3 _ rfl
  have cf : W0.cell? ⟨b, 1, none⟩ = some (.int .i32 v1) := (K0.cell (p := ⟨b, 1, none⟩) hbl (by simp)).trans (cellOf HB.out 1 _ rfl)
  have e0 : W0.cell? ⟨w.heap.size + 1, 0, none⟩ = some (.int .i64 0) := cellOf H1.out 0 _ rfl
  have f0 := freeOf H1.out 0
  have e1 : W0.cell? ⟨w.heap.size + 1, 1, none⟩ = some (.slice none 0 0) := cellOf H1.out 1 _ rfl
  have f1 := freeOf H1.out 1
  have e2 : W0.cell? ⟨w.heap.size + 1, 2, none⟩ = some (.bool false) := cellOf H1.out 2 _ rfl
  have f2 := freeOf H1.out 2
  have e3 : W0.cell? ⟨w.heap.size + 1, 3, none⟩ = some (.slice none 0 0) := cellOf H1.out 3 _ rfl
  have f3 := freeOf H1.out 3
  have e4 : W0.cell? ⟨w.heap.size + 1, 4, none⟩ = some (.slice none 0 0) := cellOf H1.out 4 _ rfl
  have f4 := freeOf H1.out 4
  go_region
  go_upto_region 3 with fail
  have hq : (((((W0.setCell ⟨w.heap.size + 1, 0, none⟩ (.int .i64 v1)).setCell ⟨w.heap.size + 1, 1, none⟩ (.slice none 0 0)).setCell ⟨w.heap.size + 1, 2, none⟩ (.bool false)).setCell ⟨w.heap.size + 1, 3, none⟩ (.slice none 0 0)).setCell ⟨w.heap.size + 1, 4, none⟩ (.slice none 0 0)).heap[w.heap.size + 1]? = some (.cells #[.int .i64 v1, .slice none 0 0, .bool false, .slice none 0 0, .slice none 0 0, .int .i64 0, .slice none 0 0, .bool false, .slice none 0 0, .slice none 0 0, .int .i64 0, .slice none 0 0, .bool false, .slice none 0 0, .slice none 0 0] 42 (0, 0)) := (set5 (o := 0) H1.out).1
  have kq : Keep [w.heap.size + 1] W0 (((((W0.setCell ⟨w.heap.size + 1, 0, none⟩ (.int .i64 v1)).setCell ⟨w.heap.size + 1, 1, none⟩ (.slice none 0 0)).setCell ⟨w.heap.size + 1, 2, none⟩ (.bool false)).setCell ⟨w.heap.size + 1, 3, none⟩ (.slice none 0 0)).setCell ⟨w.heap.size + 1, 4, none⟩ (.slice none 0 0)) := (set5 (o := 0) H1.out).2
  clear d3 cf e0 f0 e1 f1 e2 f2 e3 f3 e4 f4
  generalize (((((W0.setCell ⟨w.heap.size + 1, 0, none⟩ (.int .i64 v1)).setCell ⟨w.heap.size + 1, 1, none⟩ (.slice none 0 0)).setCell ⟨w.heap.size + 1, 2, none⟩ (.bool false)).setCell ⟨w.heap.size + 1, 3, none⟩ (.slice none 0 0)).setCell ⟨w.heap.size + 1, 4, none⟩ (.slice none 0 0)) = W1 at *
  have K1 : Keep [] w W1 := ((K0.weaken (by simp)).trans kq).fresh (by simp)
  have g0 := (kq.block (w.heap.size) (World.heap_lt H0.out) (by simp)).trans H0.out
  have g2 := (kq.block (w.heap.size + 1 + 1) (World.heap_lt H2.out) (by simp)).trans H2.out
  have z1 := Nat.le_trans z0 kq.size
  have kq1 := kq
  clear H0 H1 H2 kq
  have H0 : Hid _ := g0
  have H1 : Hid _ := hq
  have H2 : Hid _ := g2
  clear g0 g2 hq
  have d3 : W1.cell? ⟨w.heap.size + 1 + 1, 3, none⟩ = some (.slice (some ⟨w.heap.size + 1, 0, none⟩) 3 3) := cellOf H2.out 3 _ rfl
  have cf : W1.cell? ⟨b, 2, none⟩ = some (.int .i16 v2) := (K1.cell (p := ⟨b, 2, none⟩) hbl (by simp)).trans (cellOf HB.out 2 _ rfl)
  have e0 : W1.cell? ⟨w.heap.size + 1, 5, none⟩ = some (.int .i64 0) := cellOf H1.out 5 _ rfl
  have f0 := freeOf H1.out 5
  have e1 : W1.cell? ⟨w.heap.size + 1, 6, none⟩ = some (.slice none 0 0) := cellOf H1.out 6 _ rfl
  have f1 := freeOf H1.out 6
  have e2 : W1.cell? ⟨w.heap.size + 1, 7, none⟩ = some (.bool false) := cellOf H1.out 7 _ rfl
  have f2 := freeOf H1.out 7
  have e3 : W1.cell? ⟨w.heap.size + 1, 8, none⟩ = some (.slice none 0 0) := cellOf H1.out 8 _ rfl
  have f3 := freeOf H1.out 8
  have e4 : W1.cell? ⟨w.heap.size + 1, 9, none⟩ = some (.slice none 0 0) := cellOf H1.out 9 _ rfl
  have f4 := freeOf H1.out 9
  go_region
  go_upto_region 4 with fail
  have hq : (((((W1.setCell ⟨w.heap.size + 1, 5, none⟩ (.int .i64 v2)).setCell ⟨w.heap.size + 1, 6, none⟩ (.slice none 0 0)).setCell ⟨w.heap.size + 1, 7, none⟩ (.bool false)).setCell ⟨w.heap.size + 1, 8, none⟩ (.slice none 0 0)).setCell ⟨w.heap.size + 1, 9, none⟩ (.slice none 0 0)).heap[w.heap.size + 1]? = some (.cells #[.int .i64 v1, .slice none 0 0, .bool false, .slice none 0 0, .slice none 0 0, .int .i64 v2, .slice none 0 0, .bool false, .slice none 0 0, .slice none 0 0, .int .i64 0, .slice none 0 0, .bool false, .slice none 0 0, .slice none 0 0] 42 (0, 0)) := (set5 (o := 5) H1.out).1
  have kq : Keep [w.heap.size + 1] W1 (((((W1.setCell ⟨w.heap.size + 1, 5, none⟩ (.int .i64 v2)).setCell ⟨w.heap.size + 1, 6, none⟩ (.slice none 0 0)).setCell ⟨w.heap.size + 1, 7, none⟩ (.bool false)).setCell ⟨w.heap.size + 1, 8, none⟩ (.slice none 0 0)).setCell ⟨w.heap.size + 1, 9, none⟩ (.slice none 0 0)) := (set5 (o := 5) H1.out).2
  clear d3 cf e0 f0 e1 f1 e2 f2 e3 f3 e4 f4
  generalize (((((W1.setCell ⟨w.heap.size + 1, 5, none⟩ (.int .i64 v2)).setCell ⟨w.heap.size + 1, 6, none⟩ (.slice none 0 0)).setCell ⟨w.heap.size + 1, 7, none⟩ (.bool false)).setCell ⟨w.heap.size + 1, 8, none⟩ (.slice none 0 0)).setCell ⟨w.heap.size + 1, 9, none⟩ (.slice none 0 0)) = W2 at *
  have K2 : Keep [] w W2 := ((K1.weaken (by simp)).trans kq).fresh (by simp)
  have g0 := (kq.block (w.heap.size) (World.heap_lt H0.out) (by simp)).trans H0.out
  have g2 := (kq.block (w.heap.size + 1 + 1) (World.heap_lt H2.out) (by simp)).trans H2.out
  have z2 := Nat.le_trans z1 kq.size
  have kq2 := kq
  clear H0 H1 H2 kq
  have H0 : Hid _ := g0
  have H1 : Hid _ := hq
  have H2 : Hid _ := g2
  clear g0 g2 hq
  have d3 : W2.cell? ⟨w.heap.size + 1 + 1, 3, none⟩ = some (.slice (some ⟨w.heap.size + 1, 0, none⟩) 3 3) := cellOf H2.out 3 _ rfl
  have cf : W2.cell? ⟨b, 3, none⟩ = some v3 := (K2.cell (p := ⟨b, 3, none⟩) hbl (by simp)).trans (cellOf HB.out 3 _ rfl)
  have TX := fun U (hU : Keep [] W2 U) => text_any (ps3.keepF (hG.same (K2.trans hU)) (fun _ h => h)) pl3
  go_region_law (refine step_call (by rfl) 128 #[.tmp 29] #[132] (by rfl) #[v3] (by simp [go_sem]) _ (by rfl) text_body text_name (TX _ (by first | exact (Keep.refl _ _).drew | exact (Keep.refl _ _).drew.drew | exact (Keep.refl _ _).drew.drew.drew | exact (Keep.refl _ _).drew.drew.drew.drew | exact (Keep.refl _ _).drew.drew.drew.drew.drew)) ?_; rintro e wt3 ⟨cc3, rfl, hcr3, kt3⟩; have hct3 : HT wt3 (fun k => W2.heap.size ≤ k ∧ k < wt3.heap.size) (nstrT o3) cc3 := hcr3; refine ⟨_, rfl, ?_⟩; obtain ⟨at3, pt3, bt3, qt3, ct3, rt3, rfl, _⟩ := id hct3.cells; have kx3 : Keep [] W2 wt3 := (by first | exact (Keep.refl _ _).drew.trans kt3 | exact (Keep.refl _ _).drew.drew.trans kt3 | exact (Keep.refl _ _).drew.drew.drew.trans kt3 | exact (Keep.refl _ _).drew.drew.drew.drew.trans kt3 | exact (Keep.refl _ _).drew.drew.drew.drew.drew.trans kt3); have h1t := (kx3.block (w.heap.size + 1) (World.heap_lt H1.out) (by simp)).trans H1.out; have d3 : wt3.cell? ⟨w.heap.size + 1 + 1, 3, none⟩ = some (.slice (some ⟨w.heap.size + 1, 0, none⟩) 3 3) := cellOf ((kx3.block (w.heap.size + 1 + 1) (World.heap_lt H2.out) (by simp)).trans H2.out) 3 _ rfl; have e0 : wt3.cell? ⟨w.heap.size + 1, 10, none⟩ = some (.int .i64 0) := cellOf h1t 10 _ rfl; have f0 := freeOf h1t 10; have e1 : wt3.cell? ⟨w.heap.size + 1, 11, none⟩ = some (.slice none 0 0) := cellOf h1t 11 _ rfl; have f1 := freeOf h1t 11; have e2 : wt3.cell? ⟨w.heap.size + 1, 12, none⟩ = some (.bool false) := cellOf h1t 12 _ rfl; have f2 := freeOf h1t 12; have e3 : wt3.cell? ⟨w.heap.size + 1, 13, none⟩ = some (.slice none 0 0) := cellOf h1t 13 _ rfl; have f3 := freeOf h1t 13; have e4 : wt3.cell? ⟨w.heap.size + 1, 14, none⟩ = some (.slice none 0 0) := cellOf h1t 14 _ rfl; have f4 := freeOf h1t 14; have H1t : Hid _ := h1t; clear h1t)
  all_goals (
    go_upto_region 5 with fail
    have hq : (((((wt3.setCell ⟨w.heap.size + 1, 10, none⟩ (.int .i64 (nstrT o3).n)).setCell ⟨w.heap.size + 1, 11, none⟩ (.slice at3 (nstrT o3).s.length pt3)).setCell ⟨w.heap.size + 1, 12, none⟩ (.bool (nstrT o3).null)).setCell ⟨w.heap.size + 1, 13, none⟩ (.slice bt3 (nstrT o3).l.length qt3)).setCell ⟨w.heap.size + 1, 14, none⟩ (.slice ct3 (nstrT o3).u.length rt3)).heap[w.heap.size + 1]? = some (.cells #[.int .i64 v1, .slice none 0 0, .bool false, .slice none 0 0, .slice none 0 0, .int .i64 v2, .slice none 0 0, .bool false, .slice none 0 0, .slice none 0 0, .int .i64 (nstrT o3).n, .slice at3 (nstrT o3).s.length pt3, .bool (nstrT o3).null, .slice bt3 (nstrT o3).l.length qt3, .slice ct3 (nstrT o3).u.length rt3] 42 (0, 0)) := (set5 (o := 10) H1t.out).1
    have kq : Keep [w.heap.size + 1] wt3 (((((wt3.setCell ⟨w.heap.size + 1, 10, none⟩ (.int .i64 (nstrT o3).n)).setCell ⟨w.heap.size + 1, 11, none⟩ (.slice at3 (nstrT o3).s.length pt3)).setCell ⟨w.heap.size + 1, 12, none⟩ (.bool (nstrT o3).null)).setCell ⟨w.heap.size + 1, 13, none⟩ (.slice bt3 (nstrT o3).l.length qt3)).setCell ⟨w.heap.size + 1, 14, none⟩ (.slice ct3 (nstrT o3).u.length rt3)) := (set5 (o := 10) H1t.out).2
    clear d3 cf TX e0 f0 e1 f1 e2 f2 e3 f3 e4 f4
    generalize (((((wt3.setCell ⟨w.heap.size + 1, 10, none⟩ (.int .i64 (nstrT o3).n)).setCell ⟨w.heap.size + 1, 11, none⟩ (.slice at3 (nstrT o3).s.length pt3)).setCell ⟨w.heap.size + 1, 12, none⟩ (.bool (nstrT o3).null)).setCell ⟨w.heap.size + 1, 13, none⟩ (.slice bt3 (nstrT o3).l.length qt3)).setCell ⟨w.heap.size + 1, 14, none⟩ (.slice ct3 (nstrT o3).u.length rt3)) = W3 at *
    have K3 : Keep [] w W3 := (((K2.trans kx3).weaken (by simp)).trans kq).fresh (by simp)
    have y0 := (kx3.block (w.heap.size) (World.heap_lt H0.out) (by simp)).trans H0.out
    have y2 := (kx3.block (w.heap.size + 1 + 1) (World.heap_lt H2.out) (by simp)).trans H2.out
    clear H0 H2
    have H0 : Hid _ := y0
    have H2 : Hid _ := y2
    clear y0 y2
    have g0 := (kq.block (w.heap.size) (World.heap_lt H0.out) (by simp)).trans H0.out
    have g2 := (kq.block (w.heap.size + 1 + 1) (World.heap_lt H2.out) (by simp)).trans H2.out
    have z3 := Nat.le_trans z2 (Nat.le_trans kx3.size kq.size)
    have kq3 := kq
    clear H0 H1 H2 kq H1t
    have H0 : Hid _ := g0
    have H1 : Hid _ := hq
    have H2 : Hid _ := g2
    clear g0 g2 hq
    have KE : Keep [] w W3 := K3
    have g0 : W3.heap[w.heap.size]? = some (.cells #[.int .i64 0, .slice none 0 0, .bool false, .slice none 0 0, .slice none 0 0] 42) := H0.out
    have g1 : W3.heap[w.heap.size + 1]? = some (.cells #[.int .i64 v1, .slice none 0 0, .bool false, .slice none 0 0, .slice none 0 0, .int .i64 v2, .slice none 0 0, .bool false, .slice none 0 0, .slice none 0 0, .int .i64 (nstrT o3).n, .slice at3 (nstrT o3).s.length pt3, .bool (nstrT o3).null, .slice bt3 (nstrT o3).l.length qt3, .slice ct3 (nstrT o3).u.length rt3] 42) := H1.out
    have g2 : W3.heap[w.heap.size + 1 + 1]? = some (.cells #[.int .i64 0, .slice none 0 0, .bool false, .slice (some ⟨w.heap.size + 1, 0, none⟩) 3 3, .slice none 0 0] 42) := H2.out
    have zE : w.heap.size + 1 + 1 + 1 ≤ W3.heap.size := z3
    have kD : Keep [] W3 W3 := (Keep.refl _ _)
    generalize W3 = WE at *
    clear H0 H1 H2
    have H0 : Hid _ := g0
    have H1 : Hid _ := g1
    have H2 : Hid _ := g2
    clear g0 g1 g2
    have hbn : WE.heap[b]? = some (.cells #[.int .i16 ver, .int .i32 v1, .int .i16 v2, v3, tv] 134 (0, 0)) := (KE.block b hbl (by simp)).trans HB.out
    have hmn : MP WE G tv tags := hmp.keepF (hG.same KE) (fun _ h => h)
    have hGn : There G WE := hG.mono KE.size
    have EACH := tell_each (i := 4) (fn := 129) H2.out hbn rfl hmn hGn (by omega) (fun h => by have := hG _ h; omega) ht1 ht2 (enters_of Tryd.func129 (by kernel_rfl) rfl) (fun h hx hk hv hd => arv_tag h hx hk hv hd (World.heap_lt H2.out))
    clear hbn hmn
    have hris := hmp.rising
    go_wp2_with (first
      | (go_at_call 107; go_loud (refine EACH.mono ?_; rintro e We ⟨rfl, u, q2, hog, ke⟩; obtain ⟨_, _, _, _, _, hrow⟩ := id hog; obtain ⟨au, pu, rfl⟩ := owns_shape hrow; have hze := ke.size; have q4 : We.cell? ⟨w.heap.size + 1 + 1, 4, none⟩ = some (.slice au tags.length pu) := cellOf q2 4 _ rfl; have hgs : HGs We (fun k => w.heap.size ≤ k ∧ k < We.heap.size) (.slice au tags.length pu) tags := hog.hgs (fun k hk => ⟨by omega, hk.2⟩) (fun k h1 h2 => ⟨by omega, h2⟩); have SO := sorted_any hgs (fun k hk => hk.2) hris.1; have Q2 : Hid _ := q2; clear q2))
      | (go_at_call 109; go_loud (refine SO.mono ?_; rintro e Ws ⟨rfl, ks⟩; have hzs := ks.size; have g2 := (ks.block (w.heap.size + 1 + 1) (World.heap_lt Q2.out) (by simp)).trans Q2.out; have g0 := (ks.block (w.heap.size) (by omega) (by simp)).trans ((ke.block (w.heap.size) (World.heap_lt H0.out) (by simp; omega)).trans H0.out); have a0 : Ws.cell? ⟨w.heap.size + 1 + 1, 0, none⟩ = some (.int .i64 0) := cellOf g2 0 _ rfl; have a1 : Ws.cell? ⟨w.heap.size + 1 + 1, 1, none⟩ = some (.slice none 0 0) := cellOf g2 1 _ rfl; have a2 : Ws.cell? ⟨w.heap.size + 1 + 1, 2, none⟩ = some (.bool false) := cellOf g2 2 _ rfl; have a3 : Ws.cell? ⟨w.heap.size + 1 + 1, 3, none⟩ = some (.slice (some ⟨w.heap.size + 1, 0, none⟩) 3 3) := cellOf g2 3 _ rfl; have a4 : Ws.cell? ⟨w.heap.size + 1 + 1, 4, none⟩ = some (.slice au tags.length pu) := cellOf g2 4 _ rfl;  have p0 : Ws.cell? ⟨w.heap.size, 0, none⟩ = some (.int .i64 0) := cellOf g0 0 _ rfl; have pf0 := freeOf g0 0; have p1 : Ws.cell? ⟨w.heap.size, 1, none⟩ = some (.slice none 0 0) := cellOf g0 1 _ rfl; have pf1 := freeOf g0 1; have p2 : Ws.cell? ⟨w.heap.size, 2, none⟩ = some (.bool false) := cellOf g0 2 _ rfl; have pf2 := freeOf g0 2; have p3 : Ws.cell? ⟨w.heap.size, 3, none⟩ = some (.slice none 0 0) := cellOf g0 3 _ rfl; have pf3 := freeOf g0 3; have p4 : Ws.cell? ⟨w.heap.size, 4, none⟩ = some (.slice none 0 0) := cellOf g0 4 _ rfl; have pf4 := freeOf g0 4;  have G0 : Hid _ := g0; clear g0 g2 q4)))
    have hr : (((((Ws.setCell ⟨w.heap.size, 0, none⟩ (.int .i64 0)).setCell ⟨w.heap.size, 1, none⟩ (.slice none 0 0)).setCell ⟨w.heap.size, 2, none⟩ (.bool false)).setCell ⟨w.heap.size, 3, none⟩ (.slice (some ⟨w.heap.size + 1, 0, none⟩) 3 3)).setCell ⟨w.heap.size, 4, none⟩ (.slice au tags.length pu)).heap[w.heap.size]? = some (.cells #[.int .i64 0, .slice none 0 0, .bool false, .slice (some ⟨w.heap.size + 1, 0, none⟩) 3 3, .slice au tags.length pu] 42 (0, 0)) := (set5 (o := 0) G0.out).1
    have kr : Keep [w.heap.size] Ws (((((Ws.setCell ⟨w.heap.size, 0, none⟩ (.int .i64 0)).setCell ⟨w.heap.size, 1, none⟩ (.slice none 0 0)).setCell ⟨w.heap.size, 2, none⟩ (.bool false)).setCell ⟨w.heap.size, 3, none⟩ (.slice (some ⟨w.heap.size + 1, 0, none⟩) 3 3)).setCell ⟨w.heap.size, 4, none⟩ (.slice au tags.length pu)) := (set5 (o := 0) G0.out).2
    clear a0 a1 a2 a3 a4 p0 p1 p2 p3 p4 pf0 pf1 pf2 pf3 pf4
    generalize (((((Ws.setCell ⟨w.heap.size, 0, none⟩ (.int .i64 0)).setCell ⟨w.heap.size, 1, none⟩ (.slice none 0 0)).setCell ⟨w.heap.size, 2, none⟩ (.bool false)).setCell ⟨w.heap.size, 3, none⟩ (.slice (some ⟨w.heap.size + 1, 0, none⟩) 3 3)).setCell ⟨w.heap.size, 4, none⟩ (.slice au tags.length pu)) = Wr at *
    have r0 : Wr.cell? ⟨w.heap.size, 0, none⟩ = some (.int .i64 0) := cellOf hr 0 _ rfl
    have r1 : Wr.cell? ⟨w.heap.size, 1, none⟩ = some (.slice none 0 0) := cellOf hr 1 _ rfl
    have r2 : Wr.cell? ⟨w.heap.size, 2, none⟩ = some (.bool false) := cellOf hr 2 _ rfl
    have r3 : Wr.cell? ⟨w.heap.size, 3, none⟩ = some (.slice (some ⟨w.heap.size + 1, 0, none⟩) 3 3) := cellOf hr 3 _ rfl
    have r4 : Wr.cell? ⟨w.heap.size, 4, none⟩ = some (.slice au tags.length pu) := cellOf hr 4 _ rfl
    have hzr := kr.size
    have hA := (kr.block (w.heap.size + 1) (by omega) (by simp)).trans ((ks.block (w.heap.size + 1) (by omega) (by simp)).trans ((ke.block (w.heap.size + 1) (World.heap_lt H1.out) (by simp)).trans H1.out))
    have hgr : HGs Wr (fun k => w.heap.size ≤ k ∧ k < Wr.heap.size) (.slice au tags.length pu) tags := by
      have h1 := hog.hgs (G' := fun k => w.heap.size + 1 + 1 < k ∧ k < We.heap.size) (fun k hk => ⟨by omega, hk.2⟩) (fun k h1 h2 => ⟨by omega, h2⟩)
      exact h1.keepF (fun k hk => (kr.block k (by omega) (by simp; omega)).trans (ks.block k hk.2 (by simp))) (fun k hk => ⟨by omega, by omega⟩)
    have KR : Keep [] w Wr := (((KE.weaken (B := [w.heap.size, w.heap.size + 1 + 1]) (by simp)).trans ((ke.weaken (by simp)).trans ((ks.weaken (by simp)).trans (kr.weaken (by simp))))).fresh (by simp; omega))
    refine bodyPost_ret (v := .agg #[.int .i64 0, .slice none 0 0, .bool false, .slice (some ⟨w.heap.size + 1, 0, none⟩) 3 3, .slice au tags.length pu]) (by simp [results, Tryd.results92, go_sem, r0, r1, r2, r3, r4]) rfl ⟨[.int .i64 0, .slice none 0 0, .bool false, .slice (some ⟨w.heap.size + 1, 0, none⟩) 3 3, .slice au tags.length pu], rfl, ?_, KR⟩
    have hlt := World.heap_lt hA
    refine HT.of 0 [] false _ tags (RB.nil _ _) ?_ hgr (by decide) (by decide) (by decide) (by simp)
    refine HTs.block (w := Wr) (cs := [[.int .i64 v1, .slice none 0 0, .bool false, .slice none 0 0, .slice none 0 0], [.int .i64 v2, .slice none 0 0, .bool false, .slice none 0 0, .slice none 0 0], [.int .i64 (nstrT o3).n, .slice at3 (nstrT o3).s.length pt3, .bool (nstrT o3).null, .slice bt3 (nstrT o3).l.length qt3, .slice ct3 (nstrT o3).u.length rt3]]) hA rfl ⟨by omega, hlt⟩ rfl rfl (fun i a c => ?_) (by simp)
    match i, a with
    | 0, _ => exact HT.of v1 [] false [] [] (RB.nil _ _) (HTs.nil _ _) (HGs.nil _ _) (by omega) (by omega) (by decide) (by decide)
    | 1, _ => exact HT.of v2 [] false [] [] (RB.nil _ _) (HTs.nil _ _) (HGs.nil _ _) (by omega) (by omega) (by decide) (by decide)
    | 2, _ =>
      have kc : Keep [w.heap.size + 1, w.heap.size + 1 + 1, w.heap.size] wt3 Wr := (((((kq3.weaken (B := [w.heap.size + 1, w.heap.size + 1 + 1, w.heap.size]) (by simp)).trans (kD.weaken (B := [w.heap.size + 1, w.heap.size + 1 + 1, w.heap.size]) (by simp))).trans (ke.weaken (B := [w.heap.size + 1, w.heap.size + 1 + 1, w.heap.size]) (by simp))).trans (ks.weaken (B := [w.heap.size + 1, w.heap.size + 1 + 1, w.heap.size]) (by simp))).trans (kr.weaken (B := [w.heap.size + 1, w.heap.size + 1 + 1, w.heap.size]) (by simp)))
      have hzc := kc.size
      have hzx := kx3.size
      exact hct3.keepF (fun k hk => kc.block k hk.2 (by have := hk.1; simp; omega)) (fun k hk => ⟨by have := hk.1; omega, by have := hk.2; omega⟩)
    | i + 3, a => simp at a; omega)
end Go.Proofs.YtnemimighhpcaaaDoor
