/-
  UnregisterControllerRequest: telling.
-/
import Derived.Test.YtedconnhligkeaaDoorRfUcr
import Derived.Test.YtedconnhligkeaaDoorTagUcr
import Derived.Test.YtedconnhligkeaaDoorTxt
namespace Go.Proofs.YtedconnhligkeaaDoor
open Go.ChangeShapes Go.WideShapes Go.ChangeAt Go.RowKit

theorem ucr_make (u : World) : (Instr.makeSlice 24 (.int .i64 1) (.int .i64 1)).run Tryd.prog u = .ok (.slice (some ⟨u.heap.size, 0, none⟩) 1 1) (u.alloc (.cells #[.int .i64 0, .slice none 0 0, .bool false, .slice none 0 0, .slice none 0 0] 27)) := by kernel_rfl
set_option maxHeartbeats 1600000 in
set_option maxRecDepth 100000 in
theorem ucr_tell {G : Nat → Prop} {b : Nat} {ver : Int} {v1 : Int} {tv : Value} {tags : List Tg} {w : World} (hb : w.heap[b]? = some (.cells #[.int .i16 ver, .int .i32 v1, tv] 59 (0, 0))) (hmp : MP w G tv tags) (hG : There G w) (rg1 : -2147483648 ≤ v1 ∧ v1 ≤ 2147483647) (ht1 : ∀ x ∈ tags, x.2.length ≤ 1000000) (ht2 : tags.length ≤ 1000000) :
    Calls Tryd.prog 18 #[.pointer (some ⟨b, 0, none⟩)] w fun e w' => ∃ c, e = .returned (.agg c.toArray) ∧ HT w' (fun k => w.heap.size ≤ k ∧ k < w'.heap.size) (.mk 0 [] false [.mk v1 [] false [] []] tags) c ∧ Keep [] w w' := by
  have hbl : b < w.heap.size := World.heap_lt hb
  have HB : Hid _ := hb
  clear hb
  have hmk := ucr_make
  go_enter Tryd.func18, Tryd.ntmps18
  go_upto_region 2 with fail
  clear hmk
  have K0 : Keep [] w (((w.alloc (.cells #[.int .i64 0, .slice none 0 0, .bool false, .slice none 0 0, .slice none 0 0] 27)).alloc (.cells #[.int .i64 0, .slice none 0 0, .bool false, .slice none 0 0, .slice none 0 0] 27)).alloc (.cells #[.int .i64 0, .slice none 0 0, .bool false, .slice (some ⟨w.heap.size + 1, 0, none⟩) 1 1, .slice none 0 0] 27)) := ((keep_box _).alloc _).alloc _
  have h0 : (((w.alloc (.cells #[.int .i64 0, .slice none 0 0, .bool false, .slice none 0 0, .slice none 0 0] 27)).alloc (.cells #[.int .i64 0, .slice none 0 0, .bool false, .slice none 0 0, .slice none 0 0] 27)).alloc (.cells #[.int .i64 0, .slice none 0 0, .bool false, .slice (some ⟨w.heap.size + 1, 0, none⟩) 1 1, .slice none 0 0] 27)).heap[w.heap.size]? = some (.cells #[.int .i64 0, .slice none 0 0, .bool false, .slice none 0 0, .slice none 0 0] 27) := (twoBoxes (keep_box (A := []) _)).1
  have h1 : (((w.alloc (.cells #[.int .i64 0, .slice none 0 0, .bool false, .slice none 0 0, .slice none 0 0] 27)).alloc (.cells #[.int .i64 0, .slice none 0 0, .bool false, .slice none 0 0, .slice none 0 0] 27)).alloc (.cells #[.int .i64 0, .slice none 0 0, .bool false, .slice (some ⟨w.heap.size + 1, 0, none⟩) 1 1, .slice none 0 0] 27)).heap[w.heap.size + 1]? = some (.cells #[.int .i64 0, .slice none 0 0, .bool false, .slice none 0 0, .slice none 0 0] 27) := (twoBoxes (keep_box (A := []) _)).2
  have h2 : (((w.alloc (.cells #[.int .i64 0, .slice none 0 0, .bool false, .slice none 0 0, .slice none 0 0] 27)).alloc (.cells #[.int .i64 0, .slice none 0 0, .bool false, .slice none 0 0, .slice none 0 0] 27)).alloc (.cells #[.int .i64 0, .slice none 0 0, .bool false, .slice (some ⟨w.heap.size + 1, 0, none⟩) 1 1, .slice none 0 0] 27)).heap[w.heap.size + 1 + 1]? = some (.cells #[.int .i64 0, .slice none 0 0, .bool false, .slice (some ⟨w.heap.size + 1, 0, none⟩) 1 1, .slice none 0 0] 27) := by
    have h := heap_alloc_new ((w.alloc (.cells #[.int .i64 0, .slice none 0 0, .bool false, .slice none 0 0, .slice none 0 0] 27)).alloc (.cells #[.int .i64 0, .slice none 0 0, .bool false, .slice none 0 0, .slice none 0 0] 27)) (.cells #[.int .i64 0, .slice none 0 0, .bool false, .slice (some ⟨w.heap.size + 1, 0, none⟩) 1 1, .slice none 0 0] 27)
    simpa using h
  have z0 : w.heap.size + 1 + 1 + 1 ≤ (((w.alloc (.cells #[.int .i64 0, .slice none 0 0, .bool false, .slice none 0 0, .slice none 0 0] 27)).alloc (.cells #[.int .i64 0, .slice none 0 0, .bool false, .slice none 0 0, .slice none 0 0] 27)).alloc (.cells #[.int .i64 0, .slice none 0 0, .bool false, .slice (some ⟨w.heap.size + 1, 0, none⟩) 1 1, .slice none 0 0] 27)).heap.size := by simp
  generalize (((w.alloc (.cells #[.int .i64 0, .slice none 0 0, .bool false, .slice none 0 0, .slice none 0 0] 27)).alloc (.cells #[.int .i64 0, .slice none 0 0, .bool false, .slice none 0 0, .slice none 0 0] 27)).alloc (.cells #[.int .i64 0, .slice none 0 0, .bool false, .slice (some ⟨w.heap.size + 1, 0, none⟩) 1 1, .slice none 0 0] 27)) = W0 at *
  have H0 : Hid _ := h0
  have H1 : Hid _ := h1
  have H2 : Hid _ := h2
  clear h0 h1 h2
  have d3 : W0.cell? ⟨w.heap.size + 1 + 1, 3, none⟩ = some (.slice (some ⟨w.heap.size + 1, 0, none⟩) 1 1) := cellOf H2.out 3 _ rfl
  have cf : W0.cell? ⟨b, 1, none⟩ = some (.int .i32 v1) := (K0.cell (p := ⟨b, 1, none⟩) hbl (by simp)).trans (cellOf HB.out 1 _ rfl)
  have e0 : W0.cell? ⟨w.heap.size + 1, 0, none⟩ = some (.int .i64 0) := cellOf H1.out 0 _ rfl
  have f0 := freeOf H1.out 0
  have e1 : W0.cell? ⟨w.heap.size + 1, 1, none⟩ = some (.slice none 0 0) := cellOf H1.out 1 _ rfl
  have f1 := freeOf H1.out 1
  have e2 : W0.cell? ⟨w.heap.size + 1, 2, none⟩ = some (.bool false) := cellOf H1.out 2 _ rfl
  have f2 := freeOf H1.out 2
  have e3 : W0.cell? ⟨w.heap.size + 1, 3, none⟩ = some (.slice none 0 0) := cellOf H1.out 3 _ rfl
  have f3 := freeOf H1.out 3
  have e4 : W0.cell? ⟨w.heap.size + 1, 4, none⟩ = some (.slice none 0 0) := cellOf H1.out 4 _ rfl
  have f4 := freeOf H1.out 4
  go_region
  go_upto_region 3 with fail
  have hq : (((((W0.setCell ⟨w.heap.size + 1, 0, none⟩ (.int .i64 v1)).setCell ⟨w.heap.size + 1, 1, none⟩ (.slice none 0 0)).setCell ⟨w.heap.size + 1, 2, none⟩ (.bool false)).setCell ⟨w.heap.size + 1, 3, none⟩ (.slice none 0 0)).setCell ⟨w.heap.size + 1, 4, none⟩ (.slice none 0 0)).heap[w.heap.size + 1]? = some (.cells #[.int .i64 v1, .slice none 0 0, .bool false, .slice none 0 0, .slice none 0 0] 27 (0, 0)) := (set5 (o := 0) H1.out).1
  have kq : Keep [w.heap.size + 1] W0 (((((W0.setCell ⟨w.heap.size + 1, 0, none⟩ (.int .i64 v1)).setCell ⟨w.heap.size + 1, 1, none⟩ (.slice none 0 0)).setCell ⟨w.heap.size + 1, 2, none⟩ (.bool false)).setCell ⟨w.heap.size + 1, 3, none⟩ (.slice none 0 0)).setCell ⟨w.heap.size + 1, 4, none⟩ (.slice none 0 0)) := (set5 (o := 0) H1.out).2
  clear d3 cf e0 f0 e1 f1 e2 f2 e3 f3 e4 f4
  generalize (((((W0.setCell ⟨w.heap.size + 1, 0, none⟩ (.int .i64 v1)).setCell ⟨w.heap.size + 1, 1, none⟩ (.slice none 0 0)).setCell ⟨w.heap.size + 1, 2, none⟩ (.bool false)).setCell ⟨w.heap.size + 1, 3, none⟩ (.slice none 0 0)).setCell ⟨w.heap.size + 1, 4, none⟩ (.slice none 0 0)) = W1 at *
  have K1 : Keep [] w W1 := ((K0.weaken (by simp)).trans kq).fresh (by simp)
  have g0 := (kq.block (w.heap.size) (World.heap_lt H0.out) (by simp)).trans H0.out
  have g2 := (kq.block (w.heap.size + 1 + 1) (World.heap_lt H2.out) (by simp)).trans H2.out
  have z1 := Nat.le_trans z0 kq.size
  have kq1 := kq
  clear H0 H1 H2 kq
  have H0 : Hid _ := g0
  have H1 : Hid _ := hq
  have H2 : Hid _ := g2
  clear g0 g2 hq
  have KE : Keep [] w W1.drew := K1.drew
  have g0 : W1.drew.heap[w.heap.size]? = some (.cells #[.int .i64 0, .slice none 0 0, .bool false, .slice none 0 0, .slice none 0 0] 27) := H0.out
  have g1 : W1.drew.heap[w.heap.size + 1]? = some (.cells #[.int .i64 v1, .slice none 0 0, .bool false, .slice none 0 0, .slice none 0 0] 27) := H1.out
  have g2 : W1.drew.heap[w.heap.size + 1 + 1]? = some (.cells #[.int .i64 0, .slice none 0 0, .bool false, .slice (some ⟨w.heap.size + 1, 0, none⟩) 1 1, .slice none 0 0] 27) := H2.out
  have zE : w.heap.size + 1 + 1 + 1 ≤ W1.drew.heap.size := z1
  have kD : Keep [] W1 W1.drew := (Keep.refl _ _).drew
  generalize W1.drew = WE at *
  clear H0 H1 H2
  have H0 : Hid _ := g0
  have H1 : Hid _ := g1
  have H2 : Hid _ := g2
  clear g0 g1 g2
  have hbn : WE.heap[b]? = some (.cells #[.int .i16 ver, .int .i32 v1, tv] 59 (0, 0)) := (KE.block b hbl (by simp)).trans HB.out
  have hmn : MP WE G tv tags := hmp.keepF (hG.same KE) (fun _ h => h)
  have hGn : There G WE := hG.mono KE.size
  have EACH := tell_each (i := 2) (fn := 30) H2.out hbn rfl hmn hGn (by omega) (fun h => by have := hG _ h; omega) ht1 ht2 (enters_of Tryd.func30 (by kernel_rfl) rfl) (fun h hx hk hv hd => ucr_tag h hx hk hv hd (World.heap_lt H2.out))
  clear hbn hmn
  have hris := hmp.rising
  go_wp2_with (first
    | (go_at_call 29; go_loud (refine EACH.mono ?_; rintro e We ⟨rfl, u, q2, hog, ke⟩; obtain ⟨_, _, _, _, _, hrow⟩ := id hog; obtain ⟨au, pu, rfl⟩ := owns_shape hrow; have hze := ke.size; have q4 : We.cell? ⟨w.heap.size + 1 + 1, 4, none⟩ = some (.slice au tags.length pu) := cellOf q2 4 _ rfl; have hgs : HGs We (fun k => w.heap.size ≤ k ∧ k < We.heap.size) (.slice au tags.length pu) tags := hog.hgs (fun k hk => ⟨by omega, hk.2⟩) (fun k h1 h2 => ⟨by omega, h2⟩); have SO := sorted_any hgs (fun k hk => hk.2) hris.1; have Q2 : Hid _ := q2; clear q2))
    | (go_at_call 31; go_loud (refine SO.mono ?_; rintro e Ws ⟨rfl, ks⟩; have hzs := ks.size; have g2 := (ks.block (w.heap.size + 1 + 1) (World.heap_lt Q2.out) (by simp)).trans Q2.out; have g0 := (ks.block (w.heap.size) (by omega) (by simp)).trans ((ke.block (w.heap.size) (World.heap_lt H0.out) (by simp; omega)).trans H0.out); have a0 : Ws.cell? ⟨w.heap.size + 1 + 1, 0, none⟩ = some (.int .i64 0) := cellOf g2 0 _ rfl; have a1 : Ws.cell? ⟨w.heap.size + 1 + 1, 1, none⟩ = some (.slice none 0 0) := cellOf g2 1 _ rfl; have a2 : Ws.cell? ⟨w.heap.size + 1 + 1, 2, none⟩ = some (.bool false) := cellOf g2 2 _ rfl; have a3 : Ws.cell? ⟨w.heap.size + 1 + 1, 3, none⟩ = some (.slice (some ⟨w.heap.size + 1, 0, none⟩) 1 1) := cellOf g2 3 _ rfl; have a4 : Ws.cell? ⟨w.heap.size + 1 + 1, 4, none⟩ = some (.slice au tags.length pu) := cellOf g2 4 _ rfl;  have p0 : Ws.cell? ⟨w.heap.size, 0, none⟩ = some (.int .i64 0) := cellOf g0 0 _ rfl; have pf0 := freeOf g0 0; have p1 : Ws.cell? ⟨w.heap.size, 1, none⟩ = some (.slice none 0 0) := cellOf g0 1 _ rfl; have pf1 := freeOf g0 1; have p2 : Ws.cell? ⟨w.heap.size, 2, none⟩ = some (.bool false) := cellOf g0 2 _ rfl; have pf2 := freeOf g0 2; have p3 : Ws.cell? ⟨w.heap.size, 3, none⟩ = some (.slice none 0 0) := cellOf g0 3 _ rfl; have pf3 := freeOf g0 3; have p4 : Ws.cell? ⟨w.heap.size, 4, none⟩ = some (.slice none 0 0) := cellOf g0 4 _ rfl; have pf4 := freeOf g0 4;  have G0 : Hid _ := g0; clear g0 g2 q4)))
  have hr : (((((Ws.setCell ⟨w.heap.size, 0, none⟩ (.int .i64 0)).setCell ⟨w.heap.size, 1, none⟩ (.slice none 0 0)).setCell ⟨w.heap.size, 2, none⟩ (.bool false)).setCell ⟨w.heap.size, 3, none⟩ (.slice (some ⟨w.heap.size + 1, 0, none⟩) 1 1)).setCell ⟨w.heap.size, 4, none⟩ (.slice au tags.length pu)).heap[w.heap.size]? = some (.cells #[.int .i64 0, .slice none 0 0, .bool false, .slice (some ⟨w.heap.size + 1, 0, none⟩) 1 1, .slice au tags.length pu] 27 (0, 0)) := (set5 (o := 0) G0.out).1
  have kr : Keep [w.heap.size] Ws (((((Ws.setCell ⟨w.heap.size, 0, none⟩ (.int .i64 0)).setCell ⟨w.heap.size, 1, none⟩ (.slice none 0 0)).setCell ⟨w.heap.size, 2, none⟩ (.bool false)).setCell ⟨w.heap.size, 3, none⟩ (.slice (some ⟨w.heap.size + 1, 0, none⟩) 1 1)).setCell ⟨w.heap.size, 4, none⟩ (.slice au tags.length pu)) := (set5 (o := 0) G0.out).2
  clear a0 a1 a2 a3 a4 p0 p1 p2 p3 p4 pf0 pf1 pf2 pf3 pf4
  generalize (((((Ws.setCell ⟨w.heap.size, 0, none⟩ (.int .i64 0)).setCell ⟨w.heap.size, 1, none⟩ (.slice none 0 0)).setCell ⟨w.heap.size, 2, none⟩ (.bool false)).setCell ⟨w.heap.size, 3, none⟩ (.slice (some ⟨w.heap.size + 1, 0, none⟩) 1 1)).setCell ⟨w.heap.size, 4, none⟩ (.slice au tags.length pu)) = Wr at *
  have r0 : Wr.cell? ⟨w.heap.size, 0, none⟩ = some (.int .i64 0) := cellOf hr 0 _ rfl
  have r1 : Wr.cell? ⟨w.heap.size, 1, none⟩ = some (.slice none 0 0) := cellOf hr 1 _ rfl
  have r2 : Wr.cell? ⟨w.heap.size, 2, none⟩ = some (.bool false) := cellOf hr 2 _ rfl
  have r3 : Wr.cell? ⟨w.heap.size, 3, none⟩ = some (.slice (some ⟨w.heap.size + 1, 0, none⟩) 1 1) := cellOf hr 3 _ rfl
  have r4 : Wr.cell? ⟨w.heap.size, 4, none⟩ = some (.slice au tags.length pu) := cellOf hr 4 _ rfl
  have hzr := kr.size
  have hA := (kr.block (w.heap.size + 1) (by omega) (by simp)).trans ((ks.block (w.heap.size + 1) (by omega) (by simp)).trans ((ke.block (w.heap.size + 1) (World.heap_lt H1.out) (by simp)).trans H1.out))
  have hgr : HGs Wr (fun k => w.heap.size ≤ k ∧ k < Wr.heap.size) (.slice au tags.length pu) tags := by
    have h1 := hog.hgs (G' := fun k => w.heap.size + 1 + 1 < k ∧ k < We.heap.size) (fun k hk => ⟨by omega, hk.2⟩) (fun k h1 h2 => ⟨by omega, h2⟩)
    exact h1.keepF (fun k hk => (kr.block k (by omega) (by simp; omega)).trans (ks.block k hk.2 (by simp))) (fun k hk => ⟨by omega, by omega⟩)
  have KR : Keep [] w Wr := (((KE.weaken (B := [w.heap.size, w.heap.size + 1 + 1]) (by simp)).trans ((ke.weaken (by simp)).trans ((ks.weaken (by simp)).trans (kr.weaken (by simp))))).fresh (by simp; omega))
  refine bodyPost_ret (v := .agg #[.int .i64 0, .slice none 0 0, .bool false, .slice (some ⟨w.heap.size + 1, 0, none⟩) 1 1, .slice au tags.length pu]) (by simp [results, Tryd.results18, go_sem, r0, r1, r2, r3, r4]) rfl ⟨[.int .i64 0, .slice none 0 0, .bool false, .slice (some ⟨w.heap.size + 1, 0, none⟩) 1 1, .slice au tags.length pu], rfl, ?_, KR⟩
  have hlt := World.heap_lt hA
  refine HT.of 0 [] false _ tags (RB.nil _ _) ?_ hgr (by decide) (by decide) (by decide) (by simp)
  refine HTs.block (w := Wr) (cs := [[.int .i64 v1, .slice none 0 0, .bool false, .slice none 0 0, .slice none 0 0]]) hA rfl ⟨by omega, hlt⟩ rfl rfl (fun i a c => ?_) (by simp)
  match i, a with
  | 0, _ => exact HT.of v1 [] false [] [] (RB.nil _ _) (HTs.nil _ _) (HGs.nil _ _) (by omega) (by omega) (by decide) (by decide)
  | i + 1, a => simp at a
end Go.Proofs.YtedconnhligkeaaDoor
