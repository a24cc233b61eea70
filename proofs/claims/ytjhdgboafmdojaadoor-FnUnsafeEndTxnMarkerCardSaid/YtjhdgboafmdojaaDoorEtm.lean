/-
  EndTxnMarker: reading and telling.
-/
import Derived.Test.YtjhdgboafmdojaaDoorRdI16
import Derived.Test.YtjhdgboafmdojaaDoorRdI32
import Derived.Test.YtjhdgboafmdojaaDoorRdDone
namespace Go.Proofs.YtjhdgboafmdojaaDoor
open Go.ChangeShapes Go.WideShapes Go.ChangeAt Go.RowKit

theorem etm_default (w : World) (x : Value) : Calls Tryd.prog 30 #[x] w fun e w' => e = .returned (.tuple #[]) ∧ w = w' := by
  go_enter Tryd.func30, Tryd.ntmps30
  go_wp2
  refine bodyPost_end (v := .tuple #[]) (by simp [results, Tryd.results30, go_sem]) rfl ?_
  exact ⟨rfl, rfl⟩
/-- what is read -/
def etm1 (l : Bs) : Int × St := rdI 2 (l, false)
def etm2 (l : Bs) : Int × St := rdI 4 (etm1 l).2
theorem Rd.keepF {w w' : World} {b : Nat} {G : Nat → Prop} {s : St} (h : Rd w b G s) (hG : There G w) (hb : b < w.heap.size) {A : List Nat} (hk : Keep A w w') (hA : ∀ k ∈ A, ¬ G k) (hbA : b ∉ A) : Rd w' b G s := by
  obtain ⟨v, h1, h2⟩ := h
  exact ⟨v, (hk.block b hb hbA).trans h1, h2.keepF (sameOn_of hk hG (fun k hk' hm => hA k hm hk')) (fun _ h => h)⟩

set_option maxHeartbeats 400000 in
set_option maxRecDepth 100000 in
theorem etm_read {G : Nat → Prop} {b : Nat} {p : Addr} {l : Bs} {src : Value} {u : Bool} {w : World} {v0 v1 : Int} (hb : w.heap[b]? = some (.cells #[.int .i16 v0, .int .i32 v1] 50 (0, 0))) (hl : RB w G src l) (hG : There G w) (hGb : ¬ G b) (hg : Gl w p) (hp : b ≠ 1) :
    Calls Tryd.prog 31 #[.pointer (some ⟨b, 0, none⟩), src, .bool u] w fun e w' => e = .returned (errV p (etm2 l).2.2) ∧
      w'.heap[b]? = some (.cells #[.int .i16 (etm1 l).1, .int .i32 (etm2 l).1] 50 (0, 0)) ∧ Keep [b] w w' := by
  obtain ⟨ao, cap, rfl⟩ := RS.shape hl
  go_enter Tryd.func31, Tryd.ntmps31
  have hbl : b < w.heap.size := (Array.getElem?_eq_some_iff.1 hb).1
  have HB : Hid _ := hb
  clear hb
  have rd1 : Rd (w.alloc (.cells #[.slice ao l.length cap, .bool false] 85)) w.heap.size G (l, false) := ⟨_, heap_alloc_new w _, hl.keepF (hG.same (keep_box _)) (fun _ h => h)⟩
  have hGn : ¬ G w.heap.size := fun h => by have := hG _ h; omega
  have hne : w.heap.size ≠ b := by omega
  go_wp2_with (first
    | (go_at_call 30; refine (etm_default _ _).mono ?_; rintro e w1 ⟨rfl, rfl⟩)
    | (go_at_call 44; go_loud (refine (int16_any rd1 (hG.keep (keep_box _)) hGn).mono ?_; rintro e w2 ⟨rfl, rd2, k2⟩; have K2 : Keep [] w w2 := ((keep_box _).trans (k2.weaken (B := [w.heap.size]) (by simp))).fresh (by simp); have hb2 := (K2.block b hbl List.not_mem_nil).trans HB.out; have c0 := cellOf hb2 0 _ rfl; have f0 := freeOf hb2 0; have hb3 := heap_set (i := 0) hb2 (.int .i16 (rdI 2 (l, false)).1); have K3 : Keep [b] w2 (w2.setCell ⟨b, 0, none⟩ (.int .i16 (rdI 2 (l, false)).1)) := (Keep.refl _ _).setCell (.inl (by simp)) _; have c1 := cellOf hb3 0 _ rfl; have z2 : w.heap.size < w2.heap.size := (by have := k2.size; simp at this; omega); have HB3 : Hid _ := hb3; clear hb2 hb3))
    | (go_at_call 45; go_loud (refine (int32_any (rd2.keepF (hG.keep K2) z2 K3 (by simpa using hGb) (by simpa using hne)) ((hG.keep K2).mono (by simp [World.setCell])) hGn).mono ?_; rintro e w4 ⟨rfl, rd4, k4⟩; have hb4 := (k4.block b (by simp [World.setCell]; omega) (by simpa using hne.symm)).trans HB3.out; have e1 := cellOf hb4 1 _ rfl; have f1 := freeOf hb4 1; have hb5 := heap_set (i := 1) hb4 (.int .i32 (rdI 4 (rdI 2 (l, false)).2).1); have K5 : Keep [b] w4 (w4.setCell ⟨b, 1, none⟩ (.int .i32 (rdI 4 (rdI 2 (l, false)).2).1)) := (Keep.refl _ _).setCell (.inl (by simp)) _; have z4 : w2.heap.size ≤ w4.heap.size := (by have := k4.size; simpa [World.setCell] using this); have HB5 : Hid _ := hb5; clear hb4 hb5))
    | (go_at_call 46; go_loud (have K6 : Keep [b] w (w4.setCell ⟨b, 1, none⟩ (.int .i32 (rdI 4 (rdI 2 (l, false)).2).1)) := ((((K2.weaken (B := [b, w.heap.size]) (by simp)).trans (K3.weaken (by simp))).trans (k4.weaken (by simp))).trans (K5.weaken (by simp))).fresh (by simp); refine (complete_any (rd4.keepF ((hG.keep K2).mono z4) (by omega) K5 (by simpa using hGb) (by simpa using hne)) (hg.keep K6 (by simpa using hp.symm))).mono ?_; rintro e w6 ⟨rfl, k6⟩; have hb6 := (k6.block b (by simp [World.setCell]; omega) List.not_mem_nil).trans HB5.out)))
  go_ret
  exact ⟨rfl, hb6, K6.trans (k6.weaken (by simp))⟩

theorem etm_ReadFrom {G : Nat → Prop} {b : Nat} {p : Addr} {l : Bs} {src : Value} {w : World} {v0 v1 : Int} (hb : w.heap[b]? = some (.cells #[.int .i16 v0, .int .i32 v1] 50 (0, 0))) (hl : RB w G src l) (hG : There G w) (hGb : ¬ G b) (hg : Gl w p) (hp : b ≠ 1) :
    Calls Tryd.prog 19 #[.pointer (some ⟨b, 0, none⟩), src] w fun e w' => e = .returned (errV p (etm2 l).2.2) ∧
      w'.heap[b]? = some (.cells #[.int .i16 (etm1 l).1, .int .i32 (etm2 l).1] 50 (0, 0)) ∧ Keep [b] w w' := by
  go_enter Tryd.func19, Tryd.ntmps19
  go_wp2_with (go_at_call 31; refine (etm_read hb hl hG hGb hg hp).mono ?_; rintro e w1 ⟨rfl, h1⟩)
  go_ret
  exact ⟨rfl, h1⟩
theorem etm_UnsafeReadFrom {G : Nat → Prop} {b : Nat} {p : Addr} {l : Bs} {src : Value} {w : World} {v0 v1 : Int} (hb : w.heap[b]? = some (.cells #[.int .i16 v0, .int .i32 v1] 50 (0, 0))) (hl : RB w G src l) (hG : There G w) (hGb : ¬ G b) (hg : Gl w p) (hp : b ≠ 1) :
    Calls Tryd.prog 22 #[.pointer (some ⟨b, 0, none⟩), src] w fun e w' => e = .returned (errV p (etm2 l).2.2) ∧
      w'.heap[b]? = some (.cells #[.int .i16 (etm1 l).1, .int .i32 (etm2 l).1] 50 (0, 0)) ∧ Keep [b] w w' := by
  go_enter Tryd.func22, Tryd.ntmps22
  go_wp2_with (go_at_call 31; refine (etm_read hb hl hG hGb hg hp).mono ?_; rintro e w1 ⟨rfl, h1⟩)
  go_ret
  exact ⟨rfl, h1⟩
theorem etm_new (w : World) : Calls Tryd.prog 18 #[] w fun e w' => e = .returned (.agg #[.int .i16 0, .int .i32 0]) ∧ Keep [] w w' := by
  go_enter Tryd.func18, Tryd.ntmps18
  go_wp2_with (go_at_call 30; refine (etm_default _ _).mono ?_; rintro e w1 ⟨rfl, rfl⟩)
  refine bodyPost_ret (v := .agg #[.int .i16 0, .int .i32 0]) (by simp [results, Tryd.results18, go_sem]) rfl ?_
  exact ⟨rfl, (keep_box _).alloc _⟩
theorem World.heap_lt {w : World} {b : Nat} {o : Obj} (h : w.heap[b]? = some o) : b < w.heap.size := (Array.getElem?_eq_some_iff.1 h).1
/-- trees that lie in a block of their own -/
theorem HTs.block {w : World} {G : Nat → Prop} {b n : Nat} {l : List T} {cs : List (List Value)} {arr : Array Value} {t : TypeId} {z : Nat × Nat} (h : w.heap[b]? = some (.cells arr t z)) (ha : arr.toList = cs.flatten) (hG : G b) (hn : n = l.length) (h1 : cs.length = l.length) (h2 : ∀ i (a : i < l.length) (c : i < cs.length), HT w G l[i] cs[i]) (h3 : l.length ≤ 1099511627776) :
    HTs w G (.slice (some ⟨b, 0, none⟩) n n) l := by
  subst hn
  refine ⟨cs, h1, h2, h3, _, _, by rw [h1], by omega, (fun h => by cases h), fun a ha' => ?_⟩
  cases ha'
  refine ⟨rfl, fun i hi => ⟨hG, ?_⟩⟩
  have e : cs.flatten[i]? = some cs.flatten[i] := List.getElem?_eq_getElem hi
  rw [← e, ← ha]
  simp [World.cell?, h]
theorem set5 {w : World} {b o : Nat} {c : Array Value} {t : TypeId} {z0 : Nat × Nat} {z s n l u : Value} (h : w.heap[b]? = some (.cells c t z0)) :
    (((((w.setCell ⟨b, o, none⟩ z).setCell ⟨b, o + 1, none⟩ s).setCell ⟨b, o + 2, none⟩ n).setCell ⟨b, o + 3, none⟩ l).setCell ⟨b, o + 4, none⟩ u).heap[b]? = some (.cells (((((c.setIfInBounds o z).setIfInBounds (o + 1) s).setIfInBounds (o + 2) n).setIfInBounds (o + 3) l).setIfInBounds (o + 4) u) t z0) ∧
    Keep [b] w (((((w.setCell ⟨b, o, none⟩ z).setCell ⟨b, o + 1, none⟩ s).setCell ⟨b, o + 2, none⟩ n).setCell ⟨b, o + 3, none⟩ l).setCell ⟨b, o + 4, none⟩ u) :=
  ⟨heap_set (heap_set (heap_set (heap_set (heap_set h z) s) n) l) u, (((((Keep.refl _ _).setCell (.inl (by simp)) _).setCell (.inl (by simp)) _).setCell (.inl (by simp)) _).setCell (.inl (by simp)) _).setCell (.inl (by simp)) _⟩
theorem make1 (u : World) : (Instr.makeSlice 23 (.int .i64 1) (.int .i64 1)).run Tryd.prog u = .ok (.slice (some ⟨u.heap.size, 0, none⟩) 1 1) (u.alloc (.cells #[.int .i64 0, .slice none 0 0, .bool false, .slice none 0 0, .slice none 0 0] 26)) := by kernel_rfl
set_option maxHeartbeats 400000 in
set_option maxRecDepth 100000 in
theorem etm_tell {b : Nat} {v0 v1 : Int} {w : World} (hb : w.heap[b]? = some (.cells #[.int .i16 v0, .int .i32 v1] 50 (0, 0))) (hv : -2147483648 ≤ v1 ∧ v1 ≤ 2147483647) :
    Calls Tryd.prog 20 #[.pointer (some ⟨b, 0, none⟩)] w fun e w' => ∃ c, e = .returned (.agg c.toArray) ∧ HT w' (fun k => w.heap.size ≤ k ∧ k < w'.heap.size) (.mk 0 [] false [.mk v1 [] false [] []] []) c ∧ Keep [] w w' := by
  have c1 : w.cell? ⟨b, 1, none⟩ = some (.int .i32 v1) := cellOf hb 1 _ rfl
  have hbl : b < w.heap.size := (Array.getElem?_eq_some_iff.1 hb).1
  have hmk := make1
  go_enter Tryd.func20, Tryd.ntmps20
  go_wp2
  clear hmk
  have K3 : Keep [] w (((w.alloc (.cells #[.int .i64 0, .slice none 0 0, .bool false, .slice none 0 0, .slice none 0 0] 26)).alloc (.cells #[.int .i64 0, .slice none 0 0, .bool false, .slice none 0 0, .slice none 0 0] 26)).alloc (.cells #[.int .i64 0, .slice none 0 0, .bool false, .slice (some ⟨w.heap.size + 1, 0, none⟩) 1 1, .slice none 0 0] 26)) := ((keep_box _).alloc _).alloc _
  have h0 : (((w.alloc (.cells #[.int .i64 0, .slice none 0 0, .bool false, .slice none 0 0, .slice none 0 0] 26)).alloc (.cells #[.int .i64 0, .slice none 0 0, .bool false, .slice none 0 0, .slice none 0 0] 26)).alloc (.cells #[.int .i64 0, .slice none 0 0, .bool false, .slice (some ⟨w.heap.size + 1, 0, none⟩) 1 1, .slice none 0 0] 26)).heap[w.heap.size]? = some (.cells #[.int .i64 0, .slice none 0 0, .bool false, .slice none 0 0, .slice none 0 0] 26) := (twoBoxes (keep_box (A := []) _)).1
  have h1 : (((w.alloc (.cells #[.int .i64 0, .slice none 0 0, .bool false, .slice none 0 0, .slice none 0 0] 26)).alloc (.cells #[.int .i64 0, .slice none 0 0, .bool false, .slice none 0 0, .slice none 0 0] 26)).alloc (.cells #[.int .i64 0, .slice none 0 0, .bool false, .slice (some ⟨w.heap.size + 1, 0, none⟩) 1 1, .slice none 0 0] 26)).heap[w.heap.size + 1]? = some (.cells #[.int .i64 0, .slice none 0 0, .bool false, .slice none 0 0, .slice none 0 0] 26) := (twoBoxes (keep_box (A := []) _)).2
  have h2 : (((w.alloc (.cells #[.int .i64 0, .slice none 0 0, .bool false, .slice none 0 0, .slice none 0 0] 26)).alloc (.cells #[.int .i64 0, .slice none 0 0, .bool false, .slice none 0 0, .slice none 0 0] 26)).alloc (.cells #[.int .i64 0, .slice none 0 0, .bool false, .slice (some ⟨w.heap.size + 1, 0, none⟩) 1 1, .slice none 0 0] 26)).heap[w.heap.size + 1 + 1]? = some (.cells #[.int .i64 0, .slice none 0 0, .bool false, .slice (some ⟨w.heap.size + 1, 0, none⟩) 1 1, .slice none 0 0] 26) := by
    have h := heap_alloc_new ((w.alloc (.cells #[.int .i64 0, .slice none 0 0, .bool false, .slice none 0 0, .slice none 0 0] 26)).alloc (.cells #[.int .i64 0, .slice none 0 0, .bool false, .slice none 0 0, .slice none 0 0] 26)) (.cells #[.int .i64 0, .slice none 0 0, .bool false, .slice (some ⟨w.heap.size + 1, 0, none⟩) 1 1, .slice none 0 0] 26)
    simpa using h
  generalize (((w.alloc (.cells #[.int .i64 0, .slice none 0 0, .bool false, .slice none 0 0, .slice none 0 0] 26)).alloc (.cells #[.int .i64 0, .slice none 0 0, .bool false, .slice none 0 0, .slice none 0 0] 26)).alloc (.cells #[.int .i64 0, .slice none 0 0, .bool false, .slice (some ⟨w.heap.size + 1, 0, none⟩) 1 1, .slice none 0 0] 26)) = W at *
  have c2 := (K3.cell (p := ⟨b, 1, none⟩) hbl (by simp)).trans c1
  have d3 : W.cell? ⟨w.heap.size + 1 + 1, 3, none⟩ = some (.slice (some ⟨w.heap.size + 1, 0, none⟩) 1 1) := cellOf h2 3 _ rfl
  have e0 : W.cell? ⟨w.heap.size + 1, 0, none⟩ = some (.int .i64 0) := cellOf h1 0 _ rfl
  have e1 : W.cell? ⟨w.heap.size + 1, 1, none⟩ = some (.slice none 0 0) := cellOf h1 1 _ rfl
  have e2 : W.cell? ⟨w.heap.size + 1, 2, none⟩ = some (.bool false) := cellOf h1 2 _ rfl
  have e3 : W.cell? ⟨w.heap.size + 1, 3, none⟩ = some (.slice none 0 0) := cellOf h1 3 _ rfl
  have e4 : W.cell? ⟨w.heap.size + 1, 4, none⟩ = some (.slice none 0 0) := cellOf h1 4 _ rfl
  have f0 := freeOf h1 0
  have f1 := freeOf h1 1
  have f2 := freeOf h1 2
  have f3 := freeOf h1 3
  have f4 := freeOf h1 4
  have H0 : Hid _ := h0
  have H1 : Hid _ := h1
  have H2 : Hid _ := h2
  clear h0 h1 h2 c1
  go_region
  obtain ⟨hq, kq⟩ := set5 (z := .int .i64 v1) (s := .slice none 0 0) (n := .bool false) (l := .slice none 0 0) (u := .slice none 0 0) (o := 0) H1.out
  clear e0 e1 e2 e3 e4 f0 f1 f2 f3 f4
  generalize (((((W.setCell ⟨w.heap.size + 1, 0, none⟩ (.int .i64 v1)).setCell ⟨w.heap.size + 1, 1, none⟩ (.slice none 0 0)).setCell ⟨w.heap.size + 1, 2, none⟩ (.bool false)).setCell ⟨w.heap.size + 1, 3, none⟩ (.slice none 0 0)).setCell ⟨w.heap.size + 1, 4, none⟩ (.slice none 0 0)) = W5 at *
  have g0 := (kq.block w.heap.size (World.heap_lt H0.out) (by simp)).trans H0.out
  have g2 := (kq.block (w.heap.size + 1 + 1) (World.heap_lt H2.out) (by simp)).trans H2.out
  have K5 : Keep [] w W5 := ((K3.weaken (by simp)).trans kq).fresh (by simp)
  have HQ : Hid _ := hq
  have q0 : W5.cell? ⟨w.heap.size + 1 + 1, 0, none⟩ = some (.int .i64 0) := cellOf g2 0 _ rfl
  have q1 : W5.cell? ⟨w.heap.size + 1 + 1, 1, none⟩ = some (.slice none 0 0) := cellOf g2 1 _ rfl
  have q2 : W5.cell? ⟨w.heap.size + 1 + 1, 2, none⟩ = some (.bool false) := cellOf g2 2 _ rfl
  have q3 : W5.cell? ⟨w.heap.size + 1 + 1, 3, none⟩ = some (.slice (some ⟨w.heap.size + 1, 0, none⟩) 1 1) := cellOf g2 3 _ rfl
  have q4 : W5.cell? ⟨w.heap.size + 1 + 1, 4, none⟩ = some (.slice none 0 0) := cellOf g2 4 _ rfl
  have p0 : W5.cell? ⟨w.heap.size, 0, none⟩ = some (.int .i64 0) := cellOf g0 0 _ rfl
  have p1 : W5.cell? ⟨w.heap.size, 1, none⟩ = some (.slice none 0 0) := cellOf g0 1 _ rfl
  have p2 : W5.cell? ⟨w.heap.size, 2, none⟩ = some (.bool false) := cellOf g0 2 _ rfl
  have p3 : W5.cell? ⟨w.heap.size, 3, none⟩ = some (.slice none 0 0) := cellOf g0 3 _ rfl
  have p4 : W5.cell? ⟨w.heap.size, 4, none⟩ = some (.slice none 0 0) := cellOf g0 4 _ rfl
  have f0 := freeOf g0 0
  have f1 := freeOf g0 1
  have f2 := freeOf g0 2
  have f3 := freeOf g0 3
  have f4 := freeOf g0 4
  have G0 : Hid _ := g0
  clear g0 g2 hq d3 c2
  go_wp2
  obtain ⟨hr, kr⟩ := set5 (z := .int .i64 0) (s := .slice none 0 0) (n := .bool false) (l := .slice (some ⟨w.heap.size + 1, 0, none⟩) 1 1) (u := .slice none 0 0) (o := 0) G0.out
  clear p0 p1 p2 p3 p4 f0 f1 f2 f3 f4 q0 q1 q2 q3 q4
  generalize (((((W5.setCell ⟨w.heap.size, 0, none⟩ (.int .i64 0)).setCell ⟨w.heap.size, 1, none⟩ (.slice none 0 0)).setCell ⟨w.heap.size, 2, none⟩ (.bool false)).setCell ⟨w.heap.size, 3, none⟩ (.slice (some ⟨w.heap.size + 1, 0, none⟩) 1 1)).setCell ⟨w.heap.size, 4, none⟩ (.slice none 0 0)) = W6 at *
  have r0 : W6.cell? ⟨w.heap.size, 0, none⟩ = some (.int .i64 0) := cellOf hr 0 _ rfl
  have r1 : W6.cell? ⟨w.heap.size, 1, none⟩ = some (.slice none 0 0) := cellOf hr 1 _ rfl
  have r2 : W6.cell? ⟨w.heap.size, 2, none⟩ = some (.bool false) := cellOf hr 2 _ rfl
  have r3 : W6.cell? ⟨w.heap.size, 3, none⟩ = some (.slice (some ⟨w.heap.size + 1, 0, none⟩) 1 1) := cellOf hr 3 _ rfl
  have r4 : W6.cell? ⟨w.heap.size, 4, none⟩ = some (.slice none 0 0) := cellOf hr 4 _ rfl
  have K6 : Keep [] w W6 := ((K5.weaken (by simp)).trans kr).fresh (by simp)
  have hl := (kr.block (w.heap.size + 1) (World.heap_lt HQ.out) (by simp)).trans HQ.out
  refine bodyPost_ret (v := .agg #[.int .i64 0, .slice none 0 0, .bool false, .slice (some ⟨w.heap.size + 1, 0, none⟩) 1 1, .slice none 0 0]) (by simp [results, Tryd.results20, go_sem, r0, r1, r2, r3, r4]) rfl ⟨[.int .i64 0, .slice none 0 0, .bool false, .slice (some ⟨w.heap.size + 1, 0, none⟩) 1 1, .slice none 0 0], rfl, ?_, K6.drew⟩
  have hlt := World.heap_lt hl
  refine HT.of 0 [] false _ [] (RB.nil _ _) ?_ (HGs.nil _ _) (by decide) (by decide) (by decide) (by simp)
  exact HTs.block (w := W6.drew) (cs := [[.int .i64 v1, .slice none 0 0, .bool false, .slice none 0 0, .slice none 0 0]]) hl rfl ⟨by omega, hlt⟩ rfl rfl (fun i a c => by
    obtain rfl : i = 0 := by simp at a; omega
    exact HT.of v1 [] false [] [] (RB.nil _ _) (HTs.nil _ _) (HGs.nil _ _) (by omega) (by omega) (by decide) (by decide)) (by simp)
end Go.Proofs.YtjhdgboafmdojaaDoor
