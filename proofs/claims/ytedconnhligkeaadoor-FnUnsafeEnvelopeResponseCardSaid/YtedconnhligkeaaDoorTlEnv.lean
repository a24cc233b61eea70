/-
  EnvelopeResponse: telling.
-/
import Derived.Test.YtedconnhligkeaaDoorRfEnv
import Derived.Test.YtedconnhligkeaaDoorTagEnv
import Derived.Test.YtedconnhligkeaaDoorOct
namespace Go.Proofs.YtedconnhligkeaaDoor
open Go.ChangeShapes Go.WideShapes Go.ChangeAt Go.RowKit

theorem env_make (u : World) : (Instr.makeSlice 24 (.int .i64 2) (.int .i64 2)).run Tryd.prog u = .ok (.slice (some ⟨u.heap.size, 0, none⟩) 2 2) (u.alloc (.cells #[.int .i64 0, .slice none 0 0, .bool false, .slice none 0 0, .slice none 0 0, .int .i64 0, .slice none 0 0, .bool false, .slice none 0 0, .slice none 0 0] 27)) := by kernel_rfl
set_option maxHeartbeats 1600000 in
set_option maxRecDepth 100000 in
theorem env_tell {G : Nat → Prop} {b : Nat} {ver : Int} {v1 : Value} {o1 : Option Bs} {v2 : Int} {tv : Value} {tags : List Tg} {w : World} (hb : w.heap[b]? = some (.cells #[.int .i16 ver, v1, .int .i16 v2, tv] 65 (0, 0))) (hmp : MP w G tv tags) (hG : There G w) (ps1 : OS w G v1 o1) (pl1 : ∀ x, o1 = some x → x.length ≤ 1000000) (rg2 : -32768 ≤ v2 ∧ v2 ≤ 32767) (ht1 : ∀ x ∈ tags, x.2.length ≤ 1000000) (ht2 : tags.length ≤ 1000000) :
    Calls Tryd.prog 25 #[.pointer (some ⟨b, 0, none⟩)] w fun e w' => ∃ c, e = .returned (.agg c.toArray) ∧ HT w' (fun k => w.heap.size ≤ k ∧ k < w'.heap.size) (.mk 0 [] false [octT o1, .mk v2 [] false [] []] tags) c ∧ Keep [] w w' := by
  have hbl : b < w.heap.size := World.heap_lt hb
  have HB : Hid _ := hb
  clear hb
  have hmk := env_make
  go_enter Tryd.func25, Tryd.ntmps25
  go_upto_region 2 with fail
  clear hmk
  have K0 : Keep [] w (((w.alloc (.cells #[.int .i64 0, .slice none 0 0, .bool false, .slice none 0 0, .slice none 0 0] 27)).alloc (.cells #[.int .i64 0, .slice none 0 0, .bool false, .slice none 0 0, .slice none 0 0, .int .i64 0, .slice none 0 0, .bool false, .slice none 0 0, .slice none 0 0] 27)).alloc (.cells #[.int .i64 0, .slice none 0 0, .bool false, .slice (some ⟨w.heap.size + 1, 0, none⟩) 2 2, .slice none 0 0] 27)) := ((keep_box _).alloc _).alloc _
  have h0 : (((w.alloc (.cells #[.int .i64 0, .slice none 0 0, .bool false, .slice none 0 0, .slice none 0 0] 27)).alloc (.cells #[.int .i64 0, .slice none 0 0, .bool false, .slice none 0 0, .slice none 0 0, .int .i64 0, .slice none 0 0, .bool false, .slice none 0 0, .slice none 0 0] 27)).alloc (.cells #[.int .i64 0, .slice none 0 0, .bool false, .slice (some ⟨w.heap.size + 1, 0, none⟩) 2 2, .slice none 0 0] 27)).heap[w.heap.size]? = some (.cells #[.int .i64 0, .slice none 0 0, .bool false, .slice none 0 0, .slice none 0 0] 27) := (twoBoxes (keep_box (A := []) _)).1
  have h1 : (((w.alloc (.cells #[.int .i64 0, .slice none 0 0, .bool false, .slice none 0 0, .slice none 0 0] 27)).alloc (.cells #[.int .i64 0, .slice none 0 0, .bool false, .slice none 0 0, .slice none 0 0, .int .i64 0, .slice none 0 0, .bool false, .slice none 0 0, .slice none 0 0] 27)).alloc (.cells #[.int .i64 0, .slice none 0 0, .bool false, .slice (some ⟨w.heap.size + 1, 0, none⟩) 2 2, .slice none 0 0] 27)).heap[w.heap.size + 1]? = some (.cells #[.int .i64 0, .slice none 0 0, .bool false, .slice none 0 0, .slice none 0 0, .int .i64 0, .slice none 0 0, .bool false, .slice none 0 0, .slice none 0 0] 27) := (twoBoxes (keep_box (A := []) _)).2
  have h2 : (((w.alloc (.cells #[.int .i64 0, .slice none 0 0, .bool false, .slice none 0 0, .slice none 0 0] 27)).alloc (.cells #[.int .i64 0, .slice none 0 0, .bool false, .slice none 0 0, .slice none 0 0, .int .i64 0, .slice none 0 0, .bool false, .slice none 0 0, .slice none 0 0] 27)).alloc (.cells #[.int .i64 0, .slice none 0 0, .bool false, .slice (some ⟨w.heap.size + 1, 0, none⟩) 2 2, .slice none 0 0] 27)).heap[w.heap.size + 1 + 1]? = some (.cells #[.int .i64 0, .slice none 0 0, .bool false, .slice (some ⟨w.heap.size + 1, 0, none⟩) 2 2, .slice none 0 0] 27) := by
    have h := heap_alloc_new ((w.alloc (.cells #[.int .i64 0, .slice none 0 0, .bool false, .slice none 0 0, .slice none 0 0] 27)).alloc (.cells #[.int .i64 0, .slice none 0 0, .bool false, .slice none 0 0, .slice none 0 0, .int .i64 0, .slice none 0 0, .bool false, .slice none 0 0, .slice none 0 0] 27)) (.cells #[.int .i64 0, .slice none 0 0, .bool false, .slice (some ⟨w.heap.size + 1, 0, none⟩) 2 2, .slice none 0 0] 27)
    simpa using h
  have z0 : w.heap.size + 1 + 1 + 1 ≤ (((w.alloc (.cells #[.int .i64 0, .slice none 0 0, .bool false, .slice none 0 0, .slice none 0 0] 27)).alloc (.cells #[.int .i64 0, .slice none 0 0, .bool false, .slice none 0 0, .slice none 0 0, .int .i64 0, .slice none 0 0, .bool false, .slice none 0 0, .slice none 0 0] 27)).alloc (.cells #[.int .i64 0, .slice none 0 0, .bool false, .slice (some ⟨w.heap.size + 1, 0, none⟩) 2 2, .slice none 0 0] 27)).heap.size := by simp
  generalize (((w.alloc (.cells #[.int .i64 0, .slice none 0 0, .bool false, .slice none 0 0, .slice none 0 0] 27)).alloc (.cells #[.int .i64 0, .slice none 0 0, .bool false, .slice none 0 0, .slice none 0 0, .int .i64 0, .slice none 0 0, .bool false, .slice none 0 0, .slice none 0 0] 27)).alloc (.cells #[.int .i64 0, .slice none 0 0, .bool false, .slice (some ⟨w.heap.size + 1, 0, none⟩) 2 2, .slice none 0 0] 27)) = W0 at *
  have H0 : Hid _ := h0
  have H1 : Hid _ := h1
  have H2 : Hid _ := h2
  clear h0 h1 h2
  have d3 : W0.cell? ⟨w.heap.size + 1 + 1, 3, none⟩ = some (.slice (some ⟨w.heap.size + 1, 0, none⟩) 2 2) := cellOf H2.out 3 _ rfl
  have cf : W0.cell? ⟨b, 1, none⟩ = some v1 := (K0.cell (p := ⟨b, 1, none⟩) hbl (by simp)).trans (cellOf HB.out 1 _ rfl)
  have TX := fun U (hU : Keep [] W0 U) => oct_any (ps1.keepF (hG.same (K0.trans hU)) (fun _ h => h)) ((hG.mono K0.size).mono hU.size) pl1
  go_region_law (refine step_call (by rfl) 34 #[.tmp 11] #[22] (by rfl) #[v1] (by simp [go_sem]) _ (by rfl) oct_body oct_name (TX _ (by first | exact (Keep.refl _ _).drew | exact (Keep.refl _ _).drew.drew | exact (Keep.refl _ _).drew.drew.drew | exact (Keep.refl _ _).drew.drew.drew.drew | exact (Keep.refl _ _).drew.drew.drew.drew.drew)) ?_; rintro e wt1 ⟨cc1, rfl, hcr1, kt1⟩; have hct1 : HT wt1 (fun k => W0.heap.size ≤ k ∧ k < wt1.heap.size) (octT o1) cc1 := hcr1; refine ⟨_, rfl, ?_⟩; obtain ⟨at1, pt1, bt1, qt1, ct1, rt1, rfl, _⟩ := id hct1.cells; have kx1 : Keep [] W0 wt1 := (by first | exact (Keep.refl _ _).drew.trans kt1 | exact (Keep.refl _ _).drew.drew.trans kt1 | exact (Keep.refl _ _).drew.drew.drew.trans kt1 | exact (Keep.refl _ _).drew.drew.drew.drew.trans kt1 | exact (Keep.refl _ _).drew.drew.drew.drew.drew.trans kt1); have h1t := (kx1.block (w.heap.size + 1) (World.heap_lt H1.out) (by simp)).trans H1.out; have d3 : wt1.cell? ⟨w.heap.size + 1 + 1, 3, none⟩ = some (.slice (some ⟨w.heap.size + 1, 0, none⟩) 2 2) := cellOf ((kx1.block (w.heap.size + 1 + 1) (World.heap_lt H2.out) (by simp)).trans H2.out) 3 _ rfl; have e0 : wt1.cell? ⟨w.heap.size + 1, 0, none⟩ = some (.int .i64 0) := cellOf h1t 0 _ rfl; have f0 := freeOf h1t 0; have e1 : wt1.cell? ⟨w.heap.size + 1, 1, none⟩ = some (.slice none 0 0) := cellOf h1t 1 _ rfl; have f1 := freeOf h1t 1; have e2 : wt1.cell? ⟨w.heap.size + 1, 2, none⟩ = some (.bool false) := cellOf h1t 2 _ rfl; have f2 := freeOf h1t 2; have e3 : wt1.cell? ⟨w.heap.size + 1, 3, none⟩ = some (.slice none 0 0) := cellOf h1t 3 _ rfl; have f3 := freeOf h1t 3; have e4 : wt1.cell? ⟨w.heap.size + 1, 4, none⟩ = some (.slice none 0 0) := cellOf h1t 4 _ rfl; have f4 := freeOf h1t 4; have H1t : Hid _ := h1t; clear h1t)
  all_goals (
    go_upto_region 3 with fail
    have hq : (((((wt1.setCell ⟨w.heap.size + 1, 0, none⟩ (.int .i64 (octT o1).n)).setCell ⟨w.heap.size + 1, 1, none⟩ (.slice at1 (octT o1).s.length pt1)).setCell ⟨w.heap.size + 1, 2, none⟩ (.bool (octT o1).null)).setCell ⟨w.heap.size + 1, 3, none⟩ (.slice bt1 (octT o1).l.length qt1)).setCell ⟨w.heap.size + 1, 4, none⟩ (.slice ct1 (octT o1).u.length rt1)).heap[w.heap.size + 1]? = some (.cells #[.int .i64 (octT o1).n, .slice at1 (octT o1).s.length pt1, .bool (octT o1).null, .slice bt1 (octT o1).l.length qt1, .slice ct1 (octT o1).u.length rt1, .int .i64 0, .slice none 0 0, .bool false, .slice none 0 0, .slice none 0 0] 27 (0, 0)) := (set5 (o := 0) H1t.out).1
    have kq : Keep [w.heap.size + 1] wt1 (((((wt1.setCell ⟨w.heap.size + 1, 0, none⟩ (.int .i64 (octT o1).n)).setCell ⟨w.heap.size + 1, 1, none⟩ (.slice at1 (octT o1).s.length pt1)).setCell ⟨w.heap.size + 1, 2, none⟩ (.bool (octT o1).null)).setCell ⟨w.heap.size + 1, 3, none⟩ (.slice bt1 (octT o1).l.length qt1)).setCell ⟨w.heap.size + 1, 4, none⟩ (.slice ct1 (octT o1).u.length rt1)) := (set5 (o := 0) H1t.out).2
    clear d3 cf TX e0 f0 e1 f1 e2 f2 e3 f3 e4 f4
    generalize (((((wt1.setCell ⟨w.heap.size + 1, 0, none⟩ (.int .i64 (octT o1).n)).setCell ⟨w.heap.size + 1, 1, none⟩ (.slice at1 (octT o1).s.length pt1)).setCell ⟨w.heap.size + 1, 2, none⟩ (.bool (octT o1).null)).setCell ⟨w.heap.size + 1, 3, none⟩ (.slice bt1 (octT o1).l.length qt1)).setCell ⟨w.heap.size + 1, 4, none⟩ (.slice ct1 (octT o1).u.length rt1)) = W1 at *
    have K1 : Keep [] w W1 := (((K0.trans kx1).weaken (by simp)).trans kq).fresh (by simp)
    have y0 := (kx1.block (w.heap.size) (World.heap_lt H0.out) (by simp)).trans H0.out
    have y2 := (kx1.block (w.heap.size + 1 + 1) (World.heap_lt H2.out) (by simp)).trans H2.out
    clear H0 H2
    have H0 : Hid _ := y0
    have H2 : Hid _ := y2
    clear y0 y2
    have g0 := (kq.block (w.heap.size) (World.heap_lt H0.out) (by simp)).trans H0.out
    have g2 := (kq.block (w.heap.size + 1 + 1) (World.heap_lt H2.out) (by simp)).trans H2.out
    have z1 := Nat.le_trans z0 (Nat.le_trans kx1.size kq.size)
    have kq1 := kq
    clear H0 H1 H2 kq H1t
    have H0 : Hid _ := g0
    have H1 : Hid _ := hq
    have H2 : Hid _ := g2
    clear g0 g2 hq
    have d3 : W1.cell? ⟨w.heap.size + 1 + 1, 3, none⟩ = some (.slice (some ⟨w.heap.size + 1, 0, none⟩) 2 2) := cellOf H2.out 3 _ rfl
    have cf : W1.cell? ⟨b, 2, none⟩ = some (.int .i16 v2) := (K1.cell (p := ⟨b, 2, none⟩) hbl (by simp)).trans (cellOf HB.out 2 _ rfl)
    have e0 : W1.cell? ⟨w.heap.size + 1, 5, none⟩ = some (.int .i64 0) := cellOf H1.out 5 _ rfl
    have f0 := freeOf H1.out 5
    have e1 : W1.cell? ⟨w.heap.size + 1, 6, none⟩ = some (.slice none 0 0) := cellOf H1.out 6 _ rfl
    have f1 := freeOf H1.out 6
    have e2 : W1.cell? ⟨w.heap.size + 1, 7, none⟩ = some (.bool false) := cellOf H1.out 7 _ rfl
    have f2 := freeOf H1.out 7
    have e3 : W1.cell? ⟨w.heap.size + 1, 8, none⟩ = some (.slice none 0 0) := cellOf H1.out 8 _ rfl
    have f3 := freeOf H1.out 8
    have e4 : W1.cell? ⟨w.heap.size + 1, 9, none⟩ = some (.slice none 0 0) := cellOf H1.out 9 _ rfl
    have f4 := freeOf H1.out 9
    go_region
    go_upto_region 4 with fail
    have hq : (((((W1.setCell ⟨w.heap.size + 1, 5, none⟩ (.int .i64 v2)).setCell ⟨w.heap.size + 1, 6, none⟩ (.slice none 0 0)).setCell ⟨w.heap.size + 1, 7, none⟩ (.bool false)).setCell ⟨w.heap.size + 1, 8, none⟩ (.slice none 0 0)).setCell ⟨w.heap.size + 1, 9, none⟩ (.slice none 0 0)).heap[w.heap.size + 1]? = some (.cells #[.int .i64 (octT o1).n, .slice at1 (octT o1).s.length pt1, .bool (octT o1).null, .slice bt1 (octT o1).l.length qt1, .slice ct1 (octT o1).u.length rt1, .int .i64 v2, .slice none 0 0, .bool false, .slice none 0 0, .slice none 0 0] 27 (0, 0)) := (set5 (o := 5) H1.out).1
    have kq : Keep [w.heap.size + 1] W1 (((((W1.setCell ⟨w.heap.size + 1, 5, none⟩ (.int .i64 v2)).setCell ⟨w.heap.size + 1, 6, none⟩ (.slice none 0 0)).setCell ⟨w.heap.size + 1, 7, none⟩ (.bool false)).setCell ⟨w.heap.size + 1, 8, none⟩ (.slice none 0 0)).setCell ⟨w.heap.size + 1, 9, none⟩ (.slice none 0 0)) := (set5 (o := 5) H1.out).2
    clear d3 cf e0 f0 e1 f1 e2 f2 e3 f3 e4 f4
    generalize (((((W1.setCell ⟨w.heap.size + 1, 5, none⟩ (.int .i64 v2)).setCell ⟨w.heap.size + 1, 6, none⟩ (.slice none 0 0)).setCell ⟨w.heap.size + 1, 7, none⟩ (.bool false)).setCell ⟨w.heap.size + 1, 8, none⟩ (.slice none 0 0)).setCell ⟨w.heap.size + 1, 9, none⟩ (.slice none 0 0)) = W2 at *
    have K2 : Keep [] w W2 := ((K1.weaken (by simp)).trans kq).fresh (by simp)
    have g0 := (kq.block (w.heap.size) (World.heap_lt H0.out) (by simp)).trans H0.out
    have g2 := (kq.block (w.heap.size + 1 + 1) (World.heap_lt H2.out) (by simp)).trans H2.out
    have z2 := Nat.le_trans z1 kq.size
    have kq2 := kq
    clear H0 H1 H2 kq
    have H0 : Hid _ := g0
    have H1 : Hid _ := hq
    have H2 : Hid _ := g2
    clear g0 g2 hq
    have KE : Keep [] w W2.drew := K2.drew
    have g0 : W2.drew.heap[w.heap.size]? = some (.cells #[.int .i64 0, .slice none 0 0, .bool false, .slice none 0 0, .slice none 0 0] 27) := H0.out
    have g1 : W2.drew.heap[w.heap.size + 1]? = some (.cells #[.int .i64 (octT o1).n, .slice at1 (octT o1).s.length pt1, .bool (octT o1).null, .slice bt1 (octT o1).l.length qt1, .slice ct1 (octT o1).u.length rt1, .int .i64 v2, .slice none 0 0, .bool false, .slice none 0 0, .slice none 0 0] 27) := H1.out
    have g2 : W2.drew.heap[w.heap.size + 1 + 1]? = some (.cells #[.int .i64 0, .slice none 0 0, .bool false, .slice (some ⟨w.heap.size + 1, 0, none⟩) 2 2, .slice none 0 0] 27) := H2.out
    have zE : w.heap.size + 1 + 1 + 1 ≤ W2.drew.heap.size := z2
    have kD : Keep [] W2 W2.drew := (Keep.refl _ _).drew
    generalize W2.drew = WE at *
    clear H0 H1 H2
    have H0 : Hid _ := g0
    have H1 : Hid _ := g1
    have H2 : Hid _ := g2
    clear g0 g1 g2
    have hbn : WE.heap[b]? = some (.cells #[.int .i16 ver, v1, .int .i16 v2, tv] 65 (0, 0)) := (KE.block b hbl (by simp)).trans HB.out
    have hmn : MP WE G tv tags := hmp.keepF (hG.same KE) (fun _ h => h)
    have hGn : There G WE := hG.mono KE.size
    have EACH := tell_each (i := 3) (fn := 35) H2.out hbn rfl hmn hGn (by omega) (fun h => by have := hG _ h; omega) ht1 ht2 (enters_of Tryd.func35 (by kernel_rfl) rfl) (fun h hx hk hv hd => env_tag h hx hk hv hd (World.heap_lt H2.out))
    clear hbn hmn
    have hris := hmp.rising
    go_wp2_with (first
      | (go_at_call 29; go_loud (refine EACH.mono ?_; rintro e We ⟨rfl, u, q2, hog, ke⟩; obtain ⟨_, _, _, _, _, hrow⟩ := id hog; obtain ⟨au, pu, rfl⟩ := owns_shape hrow; have hze := ke.size; have q4 : We.cell? ⟨w.heap.size + 1 + 1, 4, none⟩ = some (.slice au tags.length pu) := cellOf q2 4 _ rfl; have hgs : HGs We (fun k => w.heap.size ≤ k ∧ k < We.heap.size) (.slice au tags.length pu) tags := hog.hgs (fun k hk => ⟨by omega, hk.2⟩) (fun k h1 h2 => ⟨by omega, h2⟩); have SO := sorted_any hgs (fun k hk => hk.2) hris.1; have Q2 : Hid _ := q2; clear q2))
      | (go_at_call 31; go_loud (refine SO.mono ?_; rintro e Ws ⟨rfl, ks⟩; have hzs := ks.size; have g2 := (ks.block (w.heap.size + 1 + 1) (World.heap_lt Q2.out) (by simp)).trans Q2.out; have g0 := (ks.block (w.heap.size) (by omega) (by simp)).trans ((ke.block (w.heap.size) (World.heap_lt H0.out) (by simp; omega)).trans H0.out); have a0 : Ws.cell? ⟨w.heap.size + 1 + 1, 0, none⟩ = some (.int .i64 0) := cellOf g2 0 _ rfl; have a1 : Ws.cell? ⟨w.heap.size + 1 + 1, 1, none⟩ = some (.slice none 0 0) := cellOf g2 1 _ rfl; have a2 : Ws.cell? ⟨w.heap.size + 1 + 1, 2, none⟩ = some (.bool false) := cellOf g2 2 _ rfl; have a3 : Ws.cell? ⟨w.heap.size + 1 + 1, 3, none⟩ = some (.slice (some ⟨w.heap.size + 1, 0, none⟩) 2 2) := cellOf g2 3 _ rfl; have a4 : Ws.cell? ⟨w.heap.size + 1 + 1, 4, none⟩ = some (.slice au tags.length pu) := cellOf g2 4 _ rfl;  have p0 : Ws.cell? ⟨w.heap.size, 0, none⟩ = some (.int .i64 0) := cellOf g0 0 _ rfl; have pf0 := freeOf g0 0; have p1 : Ws.cell? ⟨w.heap.size, 1, none⟩ = some (.slice none 0 0) := cellOf g0 1 _ rfl; have pf1 := freeOf g0 1; have p2 : Ws.cell? ⟨w.heap.size, 2, none⟩ = some (.bool false) := cellOf g0 2 _ rfl; have pf2 := freeOf g0 2; have p3 : Ws.cell? ⟨w.heap.size, 3, none⟩ = some (.slice none 0 0) := cellOf g0 3 _ rfl; have pf3 := freeOf g0 3; have p4 : Ws.cell? ⟨w.heap.size, 4, none⟩ = some (.slice none 0 0) := cellOf g0 4 _ rfl; have pf4 := freeOf g0 4;  have G0 : Hid _ := g0; clear g0 g2 q4)))
    have hr : (((((Ws.setCell ⟨w.heap.size, 0, none⟩ (.int .i64 0)).setCell ⟨w.heap.size, 1, none⟩ (.slice none 0 0)).setCell ⟨w.heap.size, 2, none⟩ (.bool false)).setCell ⟨w.heap.size, 3, none⟩ (.slice (some ⟨w.heap.size + 1, 0, none⟩) 2 2)).setCell ⟨w.heap.size, 4, none⟩ (.slice au tags.length pu)).heap[w.heap.size]? = some (.cells #[.int .i64 0, .slice none 0 0, .bool false, .slice (some ⟨w.heap.size + 1, 0, none⟩) 2 2, .slice au tags.length pu] 27 (0, 0)) := (set5 (o := 0) G0.out).1
    have kr : Keep [w.heap.size] Ws (((((Ws.setCell ⟨w.heap.size, 0, none⟩ (.int .i64 0)).setCell ⟨w.heap.size, 1, none⟩ (.slice none 0 0)).setCell ⟨w.heap.size, 2, none⟩ (.bool false)).setCell ⟨w.heap.size, 3, none⟩ (.slice (some ⟨w.heap.size + 1, 0, none⟩) 2 2)).setCell ⟨w.heap.size, 4, none⟩ (.slice au tags.length pu)) := (set5 (o := 0) G0.out).2
    clear a0 a1 a2 a3 a4 p0 p1 p2 p3 p4 pf0 pf1 pf2 pf3 pf4
    generalize (((((Ws.setCell ⟨w.heap.size, 0, none⟩ (.int .i64 0)).setCell ⟨w.heap.size, 1, none⟩ (.slice none 0 0)).setCell ⟨w.heap.size, 2, none⟩ (.bool false)).setCell ⟨w.heap.size, 3, none⟩ (.slice (some ⟨w.heap.size + 1, 0, none⟩) 2 2)).setCell ⟨w.heap.size, 4, none⟩ (.slice au tags.length pu)) = Wr at *
    have r0 : Wr.cell? ⟨w.heap.size, 0, none⟩ = some (.int .i64 0) := cellOf hr 0 _ rfl
    have r1 : Wr.cell? ⟨w.heap.size, 1, none⟩ = some (.slice none 0 0) := cellOf hr 1 _ rfl
    have r2 : Wr.cell? ⟨w.heap.size, 2, none⟩ = some (.bool false) := cellOf hr 2 _ rfl
    have r3 : Wr.cell? ⟨w.heap.size, 3, none⟩ = some (.slice (some ⟨w.heap.size + 1, 0, none⟩) 2 2) := cellOf hr 3 _ rfl
    have r4 : Wr.cell? ⟨w.heap.size, 4, none⟩ = some (.slice au tags.length pu) := cellOf hr 4 _ rfl
    have hzr := kr.size
    have hA := (kr.block (w.heap.size + 1) (by omega) (by simp)).trans ((ks.block (w.heap.size + 1) (by omega) (by simp)).trans ((ke.block (w.heap.size + 1) (World.heap_lt H1.out) (by simp)).trans H1.out))
    have hgr : HGs Wr (fun k => w.heap.size ≤ k ∧ k < Wr.heap.size) (.slice au tags.length pu) tags := by
      have h1 := hog.hgs (G' := fun k => w.heap.size + 1 + 1 < k ∧ k < We.heap.size) (fun k hk => ⟨by omega, hk.2⟩) (fun k h1 h2 => ⟨by omega, h2⟩)
      exact h1.keepF (fun k hk => (kr.block k (by omega) (by simp; omega)).trans (ks.block k hk.2 (by simp))) (fun k hk => ⟨by omega, by omega⟩)
    have KR : Keep [] w Wr := (((KE.weaken (B := [w.heap.size, w.heap.size + 1 + 1]) (by simp)).trans ((ke.weaken (by simp)).trans ((ks.weaken (by simp)).trans (kr.weaken (by simp))))).fresh (by simp; omega))
    refine bodyPost_ret (v := .agg #[.int .i64 0, .slice none 0 0, .bool false, .slice (some ⟨w.heap.size + 1, 0, none⟩) 2 2, .slice au tags.length pu]) (by simp [results, Tryd.results25, go_sem, r0, r1, r2, r3, r4]) rfl ⟨[.int .i64 0, .slice none 0 0, .bool false, .slice (some ⟨w.heap.size + 1, 0, none⟩) 2 2, .slice au tags.length pu], rfl, ?_, KR⟩
    have hlt := World.heap_lt hA
    refine HT.of 0 [] false _ tags (RB.nil _ _) ?_ hgr (by decide) (by decide) (by decide) (by simp)
    refine HTs.block (w := Wr) (cs := [[.int .i64 (octT o1).n, .slice at1 (octT o1).s.length pt1, .bool (octT o1).null, .slice bt1 (octT o1).l.length qt1, .slice ct1 (octT o1).u.length rt1], [.int .i64 v2, .slice none 0 0, .bool false, .slice none 0 0, .slice none 0 0]]) hA rfl ⟨by omega, hlt⟩ rfl rfl (fun i a c => ?_) (by simp)
    match i, a with
    | 0, _ =>
      have kc : Keep [w.heap.size + 1, w.heap.size + 1 + 1, w.heap.size] wt1 Wr := ((((((kq1.weaken (B := [w.heap.size + 1, w.heap.size + 1 + 1, w.heap.size]) (by simp)).trans (kq2.weaken (B := [w.heap.size + 1, w.heap.size + 1 + 1, w.heap.size]) (by simp))).trans (kD.weaken (B := [w.heap.size + 1, w.heap.size + 1 + 1, w.heap.size]) (by simp))).trans (ke.weaken (B := [w.heap.size + 1, w.heap.size + 1 + 1, w.heap.size]) (by simp))).trans (ks.weaken (B := [w.heap.size + 1, w.heap.size + 1 + 1, w.heap.size]) (by simp))).trans (kr.weaken (B := [w.heap.size + 1, w.heap.size + 1 + 1, w.heap.size]) (by simp)))
      have hzc := kc.size
      have hzx := kx1.size
      exact hct1.keepF (fun k hk => kc.block k hk.2 (by have := hk.1; simp; omega)) (fun k hk => ⟨by have := hk.1; omega, by have := hk.2; omega⟩)
    | 1, _ => exact HT.of v2 [] false [] [] (RB.nil _ _) (HTs.nil _ _) (HGs.nil _ _) (by omega) (by omega) (by decide) (by decide)
    | i + 2, a => simp at a; omega)
end Go.Proofs.YtedconnhligkeaaDoor
