/-
  GetTelemetrySubscriptionsRequest: telling.
-/
import Derived.Test.YtnemimighhpcaaaDoorRfGts
import Derived.Test.YtnemimighhpcaaaDoorTagGts
import Derived.Test.YtnemimighhpcaaaDoorTxt
import Derived.Test.YtnemimighhpcaaaDoorUu
namespace Go.Proofs.YtnemimighhpcaaaDoor
open Go.ChangeShapes Go.WideShapes Go.ChangeAt Go.RowKit

theorem gts_make (u : World) : (Instr.makeSlice 39 (.int .i64 1) (.int .i64 1)).run Tryd.prog u = .ok (.slice (some ⟨u.heap.size, 0, none⟩) 1 1) (u.alloc (.cells #[.int .i64 0, .slice none 0 0, .bool false, .slice none 0 0, .slice none 0 0] 42)) := by kernel_rfl
set_option maxHeartbeats 1600000 in
set_option maxRecDepth 100000 in
theorem gts_tell {G : Nat → Prop} {b : Nat} {ver : Int} {v1 : Bs} {tv : Value} {tags : List Tg} {w : World} (hb : w.heap[b]? = some (.cells #[.int .i16 ver, bv (v1.getD 0 0), bv (v1.getD 1 0), bv (v1.getD 2 0), bv (v1.getD 3 0), bv (v1.getD 4 0), bv (v1.getD 5 0), bv (v1.getD 6 0), bv (v1.getD 7 0), bv (v1.getD 8 0), bv (v1.getD 9 0), bv (v1.getD 10 0), bv (v1.getD 11 0), bv (v1.getD 12 0), bv (v1.getD 13 0), bv (v1.getD 14 0), bv (v1.getD 15 0), tv] 113 (0, 0))) (hmp : MP w G tv tags) (hG : There G w) (ul1 : v1.length = 16) (ht1 : ∀ x ∈ tags, x.2.length ≤ 1000000) (ht2 : tags.length ≤ 1000000) :
    Calls Tryd.prog 55 #[.pointer (some ⟨b, 0, none⟩)] w fun e w' => ∃ c, e = .returned (.agg c.toArray) ∧ HT w' (fun k => w.heap.size ≤ k ∧ k < w'.heap.size) (.mk 0 [] false [.mk 0 v1 false [] []] tags) c ∧ Keep [] w w' := by
  obtain ⟨x1_0, x1_1, x1_2, x1_3, x1_4, x1_5, x1_6, x1_7, x1_8, x1_9, x1_10, x1_11, x1_12, x1_13, x1_14, x1_15, rfl⟩ := sixteen_of ul1
  replace hb : w.heap[b]? = some (.cells #[.int .i16 ver, .int .u8 (x1_0.toNat : Int), .int .u8 (x1_1.toNat : Int), .int .u8 (x1_2.toNat : Int), .int .u8 (x1_3.toNat : Int), .int .u8 (x1_4.toNat : Int), .int .u8 (x1_5.toNat : Int), .int .u8 (x1_6.toNat : Int), .int .u8 (x1_7.toNat : Int), .int .u8 (x1_8.toNat : Int), .int .u8 (x1_9.toNat : Int), .int .u8 (x1_10.toNat : Int), .int .u8 (x1_11.toNat : Int), .int .u8 (x1_12.toNat : Int), .int .u8 (x1_13.toNat : Int), .int .u8 (x1_14.toNat : Int), .int .u8 (x1_15.toNat : Int), tv] 113 (0, 0)) := hb
  have hbl : b < w.heap.size := World.heap_lt hb
  have HB : Hid _ := hb
  clear hb
  have hmk := gts_make
  go_enter Tryd.func55, Tryd.ntmps55
  go_upto_region 2 with fail
  clear hmk
  have K0 : Keep [] w (((w.alloc (.cells #[.int .i64 0, .slice none 0 0, .bool false, .slice none 0 0, .slice none 0 0] 42)).alloc (.cells #[.int .i64 0, .slice none 0 0, .bool false, .slice none 0 0, .slice none 0 0] 42)).alloc (.cells #[.int .i64 0, .slice none 0 0, .bool false, .slice (some ⟨w.heap.size + 1, 0, none⟩) 1 1, .slice none 0 0] 42)) := ((keep_box _).alloc _).alloc _
  have h0 : (((w.alloc (.cells #[.int .i64 0, .slice none 0 0, .bool false, .slice none 0 0, .slice none 0 0] 42)).alloc (.cells #[.int .i64 0, .slice none 0 0, .bool false, .slice none 0 0, .slice none 0 0] 42)).alloc (.cells #[.int .i64 0, .slice none 0 0, .bool false, .slice (some ⟨w.heap.size + 1, 0, none⟩) 1 1, .slice none 0 0] 42)).heap[w.heap.size]? = some (.cells #[.int .i64 0, .slice none 0 0, .bool false, .slice none 0 0, .slice none 0 0] 42) := (twoBoxes (keep_box (A := []) _)).1
  have h1 : (((w.alloc (.cells #[.int .i64 0, .slice none 0 0, .bool false, .slice none 0 0, .slice none 0 0] 42)).alloc (.cells #[.int .i64 0, .slice none 0 0, .bool false, .slice none 0 0, .slice none 0 0] 42)).alloc (.cells #[.int .i64 0, .slice none 0 0, .bool false, .slice (some ⟨w.heap.size + 1, 0, none⟩) 1 1, .slice none 0 0] 42)).heap[w.heap.size + 1]? = some (.cells #[.int .i64 0, .slice none 0 0, .bool false, .slice none 0 0, .slice none 0 0] 42) := (twoBoxes (keep_box (A := []) _)).2
  have h2 : (((w.alloc (.cells #[.int .i64 0, .slice none 0 0, .bool false, .slice none 0 0, .slice none 0 0] 42)).alloc (.cells #[.int .i64 0, .slice none 0 0, .bool false, .slice none 0 0, .slice none 0 0] 42)).alloc (.cells #[.int .i64 0, .slice none 0 0, .bool false, .slice (some ⟨w.heap.size + 1, 0, none⟩) 1 1, .slice none 0 0] 42)).heap[w.heap.size + 1 + 1]? = some (.cells #[.int .i64 0, .slice none 0 0, .bool false, .slice (some ⟨w.heap.size + 1, 0, none⟩) 1 1, .slice none 0 0] 42) := by
    have h := heap_alloc_new ((w.alloc (.cells #[.int .i64 0, .slice none 0 0, .bool false, .slice none 0 0, .slice none 0 0] 42)).alloc (.cells #[.int .i64 0, .slice none 0 0, .bool false, .slice none 0 0, .slice none 0 0] 42)) (.cells #[.int .i64 0, .slice none 0 0, .bool false, .slice (some ⟨w.heap.size + 1, 0, none⟩) 1 1, .slice none 0 0] 42)
    simpa using h
  have z0 : w.heap.size + 1 + 1 + 1 ≤ (((w.alloc (.cells #[.int .i64 0, .slice none 0 0, .bool false, .slice none 0 0, .slice none 0 0] 42)).alloc (.cells #[.int .i64 0, .slice none 0 0, .bool false, .slice none 0 0, .slice none 0 0] 42)).alloc (.cells #[.int .i64 0, .slice none 0 0, .bool false, .slice (some ⟨w.heap.size + 1, 0, none⟩) 1 1, .slice none 0 0] 42)).heap.size := by simp
  generalize (((w.alloc (.cells #[.int .i64 0, .slice none 0 0, .bool false, .slice none 0 0, .slice none 0 0] 42)).alloc (.cells #[.int .i64 0, .slice none 0 0, .bool false, .slice none 0 0, .slice none 0 0] 42)).alloc (.cells #[.int .i64 0, .slice none 0 0, .bool false, .slice (some ⟨w.heap.size + 1, 0, none⟩) 1 1, .slice none 0 0] 42)) = W0 at *
  have H0 : Hid _ := h0
  have H1 : Hid _ := h1
  have H2 : Hid _ := h2
  clear h0 h1 h2
  have d3 : W0.cell? ⟨w.heap.size + 1 + 1, 3, none⟩ = some (.slice (some ⟨w.heap.size + 1, 0, none⟩) 1 1) := cellOf H2.out 3 _ rfl
  have RU := rb_cells (W := W0) (pre := [.int .i16 ver]) (post := [tv]) (x := [x1_0, x1_1, x1_2, x1_3, x1_4, x1_5, x1_6, x1_7, x1_8, x1_9, x1_10, x1_11, x1_12, x1_13, x1_14, x1_15]) ((K0.block b hbl (by simp)).trans HB.out)
  go_region_law (refine app_step (by rfl) (.const (.slice none 0 0)) (.tmp 11) (by rfl) W0.heap.size (.slice none 0 0) [] (by rfl) (OB.nil _ _) _ [x1_0, x1_1, x1_2, x1_3, x1_4, x1_5, x1_6, x1_7, x1_8, x1_9, x1_10, x1_11, x1_12, x1_13, x1_14, x1_15] (fun k => k = b) (by rfl) (by exact RU) (by simp) (by exact Nat.le_refl _) ?_; intro v1 wt1 hob1 hg1; obtain ⟨at1, pt1, rfl⟩ := hob1.len; have kx1 : Keep [] W0 wt1 := (by first | exact ((Keep.refl _ _).drew).grown hg1 (by simp [Value.ownBlock]) | exact ((Keep.refl _ _).drew.drew).grown hg1 (by simp [Value.ownBlock]) | exact ((Keep.refl _ _).drew.drew.drew).grown hg1 (by simp [Value.ownBlock])); have h1t := (kx1.block (w.heap.size + 1) (World.heap_lt H1.out) (by simp)).trans H1.out; have d3 : wt1.cell? ⟨w.heap.size + 1 + 1, 3, none⟩ = some (.slice (some ⟨w.heap.size + 1, 0, none⟩) 1 1) := cellOf ((kx1.block (w.heap.size + 1 + 1) (World.heap_lt H2.out) (by simp)).trans H2.out) 3 _ rfl; have e0 : wt1.cell? ⟨w.heap.size + 1, 0, none⟩ = some (.int .i64 0) := cellOf h1t 0 _ rfl; have f0 := freeOf h1t 0; have e1 : wt1.cell? ⟨w.heap.size + 1, 1, none⟩ = some (.slice none 0 0) := cellOf h1t 1 _ rfl; have f1 := freeOf h1t 1; have e2 : wt1.cell? ⟨w.heap.size + 1, 2, none⟩ = some (.bool false) := cellOf h1t 2 _ rfl; have f2 := freeOf h1t 2; have e3 : wt1.cell? ⟨w.heap.size + 1, 3, none⟩ = some (.slice none 0 0) := cellOf h1t 3 _ rfl; have f3 := freeOf h1t 3; have e4 : wt1.cell? ⟨w.heap.size + 1, 4, none⟩ = some (.slice none 0 0) := cellOf h1t 4 _ rfl; have f4 := freeOf h1t 4; have H1t : Hid _ := h1t; clear h1t)
  all_goals (
    go_upto_region 3 with fail
    have hq : (((((wt1.setCell ⟨w.heap.size + 1, 0, none⟩ (.int .i64 0)).setCell ⟨w.heap.size + 1, 1, none⟩ (.slice at1 16 pt1)).setCell ⟨w.heap.size + 1, 2, none⟩ (.bool false)).setCell ⟨w.heap.size + 1, 3, none⟩ (.slice none 0 0)).setCell ⟨w.heap.size + 1, 4, none⟩ (.slice none 0 0)).heap[w.heap.size + 1]? = some (.cells #[.int .i64 0, .slice at1 16 pt1, .bool false, .slice none 0 0, .slice none 0 0] 42 (0, 0)) := (set5 (o := 0) H1t.out).1
    have kq : Keep [w.heap.size + 1] wt1 (((((wt1.setCell ⟨w.heap.size + 1, 0, none⟩ (.int .i64 0)).setCell ⟨w.heap.size + 1, 1, none⟩ (.slice at1 16 pt1)).setCell ⟨w.heap.size + 1, 2, none⟩ (.bool false)).setCell ⟨w.heap.size + 1, 3, none⟩ (.slice none 0 0)).setCell ⟨w.heap.size + 1, 4, none⟩ (.slice none 0 0)) := (set5 (o := 0) H1t.out).2
    clear d3 RU e0 f0 e1 f1 e2 f2 e3 f3 e4 f4
    generalize (((((wt1.setCell ⟨w.heap.size + 1, 0, none⟩ (.int .i64 0)).setCell ⟨w.heap.size + 1, 1, none⟩ (.slice at1 16 pt1)).setCell ⟨w.heap.size + 1, 2, none⟩ (.bool false)).setCell ⟨w.heap.size + 1, 3, none⟩ (.slice none 0 0)).setCell ⟨w.heap.size + 1, 4, none⟩ (.slice none 0 0)) = W1 at *
    have K1 : Keep [] w W1 := (((K0.trans kx1).weaken (by simp)).trans kq).fresh (by simp)
    have y0 := (kx1.block (w.heap.size) (World.heap_lt H0.out) (by simp)).trans H0.out
    have y2 := (kx1.block (w.heap.size + 1 + 1) (World.heap_lt H2.out) (by simp)).trans H2.out
    clear H0 H2
    have H0 : Hid _ := y0
    have H2 : Hid _ := y2
    clear y0 y2
    have g0 := (kq.block (w.heap.size) (World.heap_lt H0.out) (by simp)).trans H0.out
    have g2 := (kq.block (w.heap.size + 1 + 1) (World.heap_lt H2.out) (by simp)).trans H2.out
    have z1 := Nat.le_trans z0 (Nat.le_trans kx1.size kq.size)
    have kq1 := kq
    clear H0 H1 H2 kq H1t
    have H0 : Hid _ := g0
    have H1 : Hid _ := hq
    have H2 : Hid _ := g2
    clear g0 g2 hq
    have KE : Keep [] w W1 := K1
    have g0 : W1.heap[w.heap.size]? = some (.cells #[.int .i64 0, .slice none 0 0, .bool false, .slice none 0 0, .slice none 0 0] 42) := H0.out
    have g1 : W1.heap[w.heap.size + 1]? = some (.cells #[.int .i64 0, .slice at1 16 pt1, .bool false, .slice none 0 0, .slice none 0 0] 42) := H1.out
    have g2 : W1.heap[w.heap.size + 1 + 1]? = some (.cells #[.int .i64 0, .slice none 0 0, .bool false, .slice (some ⟨w.heap.size + 1, 0, none⟩) 1 1, .slice none 0 0] 42) := H2.out
    have zE : w.heap.size + 1 + 1 + 1 ≤ W1.heap.size := z1
    have kD : Keep [] W1 W1 := (Keep.refl _ _)
    generalize W1 = WE at *
    clear H0 H1 H2
    have H0 : Hid _ := g0
    have H1 : Hid _ := g1
    have H2 : Hid _ := g2
    clear g0 g1 g2
    have hbn : WE.heap[b]? = some (.cells #[.int .i16 ver, .int .u8 (x1_0.toNat : Int), .int .u8 (x1_1.toNat : Int), .int .u8 (x1_2.toNat : Int), .int .u8 (x1_3.toNat : Int), .int .u8 (x1_4.toNat : Int), .int .u8 (x1_5.toNat : Int), .int .u8 (x1_6.toNat : Int), .int .u8 (x1_7.toNat : Int), .int .u8 (x1_8.toNat : Int), .int .u8 (x1_9.toNat : Int), .int .u8 (x1_10.toNat : Int), .int .u8 (x1_11.toNat : Int), .int .u8 (x1_12.toNat : Int), .int .u8 (x1_13.toNat : Int), .int .u8 (x1_14.toNat : Int), .int .u8 (x1_15.toNat : Int), tv] 113 (0, 0)) := (KE.block b hbl (by simp)).trans HB.out
    have hmn : MP WE G tv tags := hmp.keepF (hG.same KE) (fun _ h => h)
    have hGn : There G WE := hG.mono KE.size
    have EACH := tell_each (i := 17) (fn := 108) H2.out hbn rfl hmn hGn (by omega) (fun h => by have := hG _ h; omega) ht1 ht2 (enters_of Tryd.func108 (by kernel_rfl) rfl) (fun h hx hk hv hd => gts_tag h hx hk hv hd (World.heap_lt H2.out))
    clear hbn hmn
    have hris := hmp.rising
    go_wp2_with (first
      | (go_at_call 107; go_loud (refine EACH.mono ?_; rintro e We ⟨rfl, u, q2, hog, ke⟩; obtain ⟨_, _, _, _, _, hrow⟩ := id hog; obtain ⟨au, pu, rfl⟩ := owns_shape hrow; have hze := ke.size; have q4 : We.cell? ⟨w.heap.size + 1 + 1, 4, none⟩ = some (.slice au tags.length pu) := cellOf q2 4 _ rfl; have hgs : HGs We (fun k => w.heap.size ≤ k ∧ k < We.heap.size) (.slice au tags.length pu) tags := hog.hgs (fun k hk => ⟨by omega, hk.2⟩) (fun k h1 h2 => ⟨by omega, h2⟩); have SO := sorted_any hgs (fun k hk => hk.2) hris.1; have Q2 : Hid _ := q2; clear q2))
      | (go_at_call 109; go_loud (refine SO.mono ?_; rintro e Ws ⟨rfl, ks⟩; have hzs := ks.size; have g2 := (ks.block (w.heap.size + 1 + 1) (World.heap_lt Q2.out) (by simp)).trans Q2.out; have g0 := (ks.block (w.heap.size) (by omega) (by simp)).trans ((ke.block (w.heap.size) (World.heap_lt H0.out) (by simp; omega)).trans H0.out); have a0 : Ws.cell? ⟨w.heap.size + 1 + 1, 0, none⟩ = some (.int .i64 0) := cellOf g2 0 _ rfl; have a1 : Ws.cell? ⟨w.heap.size + 1 + 1, 1, none⟩ = some (.slice none 0 0) := cellOf g2 1 _ rfl; have a2 : Ws.cell? ⟨w.heap.size + 1 + 1, 2, none⟩ = some (.bool false) := cellOf g2 2 _ rfl; have a3 : Ws.cell? ⟨w.heap.size + 1 + 1, 3, none⟩ = some (.slice (some ⟨w.heap.size + 1, 0, none⟩) 1 1) := cellOf g2 3 _ rfl; have a4 : Ws.cell? ⟨w.heap.size + 1 + 1, 4, none⟩ = some (.slice au tags.length pu) := cellOf g2 4 _ rfl;  have p0 : Ws.cell? ⟨w.heap.size, 0, none⟩ = some (.int .i64 0) := cellOf g0 0 _ rfl; have pf0 := freeOf g0 0; have p1 : Ws.cell? ⟨w.heap.size, 1, none⟩ = some (.slice none 0 0) := cellOf g0 1 _ rfl; have pf1 := freeOf g0 1; have p2 : Ws.cell? ⟨w.heap.size, 2, none⟩ = some (.bool false) := cellOf g0 2 _ rfl; have pf2 := freeOf g0 2; have p3 : Ws.cell? ⟨w.heap.size, 3, none⟩ = some (.slice none 0 0) := cellOf g0 3 _ rfl; have pf3 := freeOf g0 3; have p4 : Ws.cell? ⟨w.heap.size, 4, none⟩ = some (.slice none 0 0) := cellOf g0 4 _ rfl; have pf4 := freeOf g0 4;  have G0 : Hid _ := g0; clear g0 g2 q4)))
    have hr : (((((Ws.setCell ⟨w.heap.size, 0, none⟩ (.int .i64 0)).setCell ⟨w.heap.size, 1, none⟩ (.slice none 0 0)).setCell ⟨w.heap.size, 2, none⟩ (.bool false)).setCell ⟨w.heap.size, 3, none⟩ (.slice (some ⟨w.heap.size + 1, 0, none⟩) 1 1)).setCell ⟨w.heap.size, 4, none⟩ (.slice au tags.length pu)).heap[w.heap.size]? = some (.cells #[.int .i64 0, .slice none 0 0, .bool false, .slice (some ⟨w.heap.size + 1, 0, none⟩) 1 1, .slice au tags.length pu] 42 (0, 0)) := (set5 (o := 0) G0.out).1
    have kr : Keep [w.heap.size] Ws (((((Ws.setCell ⟨w.heap.size, 0, none⟩ (.int .i64 0)).setCell ⟨w.heap.size, 1, none⟩ (.slice none 0 0)).setCell ⟨w.heap.size, 2, none⟩ (.bool false)).setCell ⟨w.heap.size, 3, none⟩ (.slice (some ⟨w.heap.size + 1, 0, none⟩) 1 1)).setCell ⟨w.heap.size, 4, none⟩ (.slice au tags.length pu)) := (set5 (o := 0) G0.out).2
    clear a0 a1 a2 a3 a4 p0 p1 p2 p3 p4 pf0 pf1 pf2 pf3 pf4
    generalize (((((Ws.setCell ⟨w.heap.size, 0, none⟩ (.int .i64 0)).setCell ⟨w.heap.size, 1, none⟩ (.slice none 0 0)).setCell ⟨w.heap.size, 2, none⟩ (.bool false)).setCell ⟨w.heap.size, 3, none⟩ (.slice (some ⟨w.heap.size + 1, 0, none⟩) 1 1)).setCell ⟨w.heap.size, 4, none⟩ (.slice au tags.length pu)) = Wr at *
    have r0 : Wr.cell? ⟨w.heap.size, 0, none⟩ = some (.int .i64 0) := cellOf hr 0 _ rfl
    have r1 : Wr.cell? ⟨w.heap.size, 1, none⟩ = some (.slice none 0 0) := cellOf hr 1 _ rfl
    have r2 : Wr.cell? ⟨w.heap.size, 2, none⟩ = some (.bool false) := cellOf hr 2 _ rfl
    have r3 : Wr.cell? ⟨w.heap.size, 3, none⟩ = some (.slice (some ⟨w.heap.size + 1, 0, none⟩) 1 1) := cellOf hr 3 _ rfl
    have r4 : Wr.cell? ⟨w.heap.size, 4, none⟩ = some (.slice au tags.length pu) := cellOf hr 4 _ rfl
    have hzr := kr.size
    have hA := (kr.block (w.heap.size + 1) (by omega) (by simp)).trans ((ks.block (w.heap.size + 1) (by omega) (by simp)).trans ((ke.block (w.heap.size + 1) (World.heap_lt H1.out) (by simp)).trans H1.out))
    have hgr : HGs Wr (fun k => w.heap.size ≤ k ∧ k < Wr.heap.size) (.slice au tags.length pu) tags := by
      have h1 := hog.hgs (G' := fun k => w.heap.size + 1 + 1 < k ∧ k < We.heap.size) (fun k hk => ⟨by omega, hk.2⟩) (fun k h1 h2 => ⟨by omega, h2⟩)
      exact h1.keepF (fun k hk => (kr.block k (by omega) (by simp; omega)).trans (ks.block k hk.2 (by simp))) (fun k hk => ⟨by omega, by omega⟩)
    have KR : Keep [] w Wr := (((KE.weaken (B := [w.heap.size, w.heap.size + 1 + 1]) (by simp)).trans ((ke.weaken (by simp)).trans ((ks.weaken (by simp)).trans (kr.weaken (by simp))))).fresh (by simp; omega))
    refine bodyPost_ret (v := .agg #[.int .i64 0, .slice none 0 0, .bool false, .slice (some ⟨w.heap.size + 1, 0, none⟩) 1 1, .slice au tags.length pu]) (by simp [results, Tryd.results55, go_sem, r0, r1, r2, r3, r4]) rfl ⟨[.int .i64 0, .slice none 0 0, .bool false, .slice (some ⟨w.heap.size + 1, 0, none⟩) 1 1, .slice au tags.length pu], rfl, ?_, KR⟩
    have hlt := World.heap_lt hA
    refine HT.of 0 [] false _ tags (RB.nil _ _) ?_ hgr (by decide) (by decide) (by decide) (by simp)
    refine HTs.block (w := Wr) (cs := [[.int .i64 0, .slice at1 16 pt1, .bool false, .slice none 0 0, .slice none 0 0]]) hA rfl ⟨by omega, hlt⟩ rfl rfl (fun i a c => ?_) (by simp)
    match i, a with
    | 0, _ =>
      have kc : Keep [w.heap.size + 1, w.heap.size + 1 + 1, w.heap.size] wt1 Wr := (((((kq1.weaken (B := [w.heap.size + 1, w.heap.size + 1 + 1, w.heap.size]) (by simp)).trans (kD.weaken (B := [w.heap.size + 1, w.heap.size + 1 + 1, w.heap.size]) (by simp))).trans (ke.weaken (B := [w.heap.size + 1, w.heap.size + 1 + 1, w.heap.size]) (by simp))).trans (ks.weaken (B := [w.heap.size + 1, w.heap.size + 1 + 1, w.heap.size]) (by simp))).trans (kr.weaken (B := [w.heap.size + 1, w.heap.size + 1 + 1, w.heap.size]) (by simp)))
      have hzc := kc.size
      have hzx := kx1.size
      have hrb : RB wt1 (fun k => W0.heap.size ≤ k ∧ k < wt1.heap.size) (.slice at1 16 pt1) _ := hob1.rb
      exact HT.of 0 _ false [] [] (hrb.keepF (fun k hk => kc.block k hk.2 (by have := hk.1; simp; omega)) (fun k hk => ⟨by have := hk.1; omega, by have := hk.2; omega⟩)) (HTs.nil _ _) (HGs.nil _ _) (by omega) (by omega) (by simp) (by decide)
    | i + 1, a => simp at a)
end Go.Proofs.YtnemimighhpcaaaDoor
