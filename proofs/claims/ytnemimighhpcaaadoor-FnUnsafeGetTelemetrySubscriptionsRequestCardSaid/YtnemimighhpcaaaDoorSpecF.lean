/-
  spec.field: the other cases, and all of it.
-/
import Derived.Test.YtnemimighhpcaaaDoorSpecE
namespace Go.Proofs.YtnemimighhpcaaaDoor
open Go.ChangeShapes Go.WideShapes Go.ChangeAt Go.RowKit

/-- a part's contract behind any steps that keep old memory -/
theorem PartSaid.at {fs : List F} {v : Int} {flex : Bool} (hp : PartSaid fs v flex) {G : Nat → Prop} {vs : Value} {t : T} {c : List Value} {w0 w : World} (hf : HFs w0 G vs fs) (ht : HT w0 G t c) (hG : There G w0) (hk : Keep [] w0 w)
    (hb : (partP fs v flex t).length ≤ 1099511627776) :
    Calls Tryd.prog 47 #[vs, .int .i64 v, .bool flex, .agg c.toArray] w fun e w' => ∃ d, e = .returned d ∧ OB w' w.heap.size d (partP fs v flex t) ∧ Keep [] w w' :=
  hp G vs t c w (hf.keepF (hG.same hk) (fun _ h => h)) (ht.keepF (hG.same hk) (fun _ h => h)) (hG.keep hk) hb

set_option maxHeartbeats 400000 in
set_option maxRecDepth 100000 in
theorem field_list_null {f : F} {v : Int} {flex : Bool} {G : Nat → Prop} {c : List Value} {t : T} {ct : List Value} {w : World} (hf : HF w G f c) (ht : HT w G t ct) (hG : There G w)
    (h11 : f.kind = 11) (hnull : f.isNull v t = true) :
    Calls Tryd.prog 100 #[.agg c.toArray, .int .i64 v, .bool flex, .agg ct.toArray] w fun e w' => ∃ d, e = .returned d ∧ OB w' w.heap.size d (countedP flex true 0 4) ∧ Keep [] w w' := by
  obtain ⟨ao, cap, rfl, hsub⟩ := hf.cells
  obtain ⟨az, ps, al, pl, au, pu, rfl, hs, hl, hu, hn1, hn2, hn3, hn4⟩ := ht.cells
  have K1 : Keep [] w ((w.alloc (.cells (fcells f ao cap) 59)).alloc (.cells (tcells t az ps al pl au pu) 26)) := (keep_box _).alloc _
  have hG1 := hG.keep K1
  have hf1 := hf.keepF (hG.same K1) (fun _ h => h)
  have ht1 := ht.keepF (hG.same K1) (fun _ h => h)
  have hl1 := hl.keepF (hG.same K1) (fun _ h => h)
  have N1 := null_any hf1 ht1 v
  rw [hnull] at N1
  have hkd : (f.kind == 11) = true := by rw [h11]; rfl
  have e0 : ((0 : Nat) : Int) = 0 := rfl
  have Z4 := fun W => counted_any flex true 0 4 (by omega) (by decide) W
  rw [e0] at Z4
  clear hf ht hl hu hs hf1 ht1 h11 hnull e0 hsub
  go_enter Tryd.func100, Tryd.ntmps100
  go_wp2_with (first
    | (go_at_call 124; refine N1.mono ?_; rintro e w1 ⟨rfl, hk1⟩; obtain ⟨q0, q1, q2, q3, q4, q5, q6, q7⟩ := fbox (twoBoxes hk1).1; obtain ⟨r0, r1, r2, r3, r4⟩ := tbox (twoBoxes hk1).2; clear q1 q2 q4 q5)
    | (go_at_call 125; refine (things_any (hl1.keepF (hG1.same hk1) (fun _ h => h))).mono ?_; rintro e w2 ⟨dl, rfl, hdl, rfl⟩; obtain ⟨aL, pL, rfl, hpL⟩ := hdl.shape)
    | (go_at_call 133; refine (Z4 _).mono ?_; rintro e w2 ⟨d2, rfl, ho2, hk2⟩))
  refine wp_loop_rounds 1 ?_
  rw [rounds_succ]
  go_wp2
  go_ret
  exact ⟨_, rfl, ho2.lower (by have := hk1.size; simp at this; omega), K1.trans (hk1.trans hk2)⟩

set_option maxHeartbeats 400000 in
set_option maxRecDepth 100000 in
theorem field_ptr_null {f : F} {v : Int} {flex : Bool} {G : Nat → Prop} {c : List Value} {t : T} {ct : List Value} {w : World} (hf : HF w G f c) (ht : HT w G t ct) (hG : There G w)
    (h10 : f.kind = 10) (hn : 0 ≤ f.nul) (hnull : f.isNull v t = true) :
    Calls Tryd.prog 100 #[.agg c.toArray, .int .i64 v, .bool flex, .agg ct.toArray] w fun e w' => ∃ d, e = .returned d ∧ OB w' w.heap.size d (fixedP (-1) 1) ∧ Keep [] w w' := by
  obtain ⟨ao, cap, rfl, hsub⟩ := hf.cells
  obtain ⟨az, ps, al, pl, au, pu, rfl, hs, hl, hu, hn1, hn2, hn3, hn4⟩ := ht.cells
  have K1 : Keep [] w ((w.alloc (.cells (fcells f ao cap) 59)).alloc (.cells (tcells t az ps al pl au pu) 26)) := (keep_box _).alloc _
  have hf1 := hf.keepF (hG.same K1) (fun _ h => h)
  have ht1 := ht.keepF (hG.same K1) (fun _ h => h)
  have N1 := null_any hf1 ht1 v
  rw [hnull] at N1
  have hkd : (f.kind == 11) = false := by rw [h10]; rfl
  have hkd2 : (f.kind == 10) = true := by rw [h10]; rfl
  have e0 : ((1 : Nat) : Int) = 1 := rfl
  have F1 := fun W => fixed_any (-1) 1 (by decide) W
  rw [e0] at F1
  clear hf ht hl hu hs hf1 ht1 h10 hnull e0 hsub
  go_enter Tryd.func100, Tryd.ntmps100
  go_wp2_with (first
    | (go_at_call 124; refine N1.mono ?_; rintro e w1 ⟨rfl, hk1⟩; obtain ⟨q0, q1, q2, q3, q4, q5, q6, q7⟩ := fbox (twoBoxes hk1).1; clear q1 q2 q4 q5)
    | (go_at_call 97; refine (F1 _).mono ?_; rintro e w2 ⟨d2, rfl, ho2, hk2⟩))
  go_ret
  exact ⟨_, rfl, ho2.lower (by have := hk1.size; simp at this; omega), K1.trans (hk1.trans hk2)⟩

set_option maxHeartbeats 400000 in
set_option maxRecDepth 100000 in
theorem field_ptr {f : F} {v : Int} {flex : Bool} (hp : PartSaid f.sub v flex) {G : Nat → Prop} {c : List Value} {t : T} {ct : List Value} {w : World} (hf : HF w G f c) (ht : HT w G t ct) (hG : There G w)
    (h10 : f.kind = 10) (hn : 0 ≤ f.nul) (hnull : f.isNull v t = false) (hb : (partP f.sub v flex t).length ≤ 1099511627776) :
    Calls Tryd.prog 100 #[.agg c.toArray, .int .i64 v, .bool flex, .agg ct.toArray] w fun e w' => ∃ d, e = .returned d ∧ OB w' w.heap.size d (fixedP 1 1 ++ partP f.sub v flex t) ∧ Keep [] w w' := by
  obtain ⟨ao, cap, rfl, hsub⟩ := hf.cells
  have PP := fun W (hW : Keep [] w W) => hp.at hsub ht hG hW hb
  obtain ⟨az, ps, al, pl, au, pu, rfl, hs, hl, hu, hn1, hn2, hn3, hn4⟩ := ht.cells
  have K1 : Keep [] w ((w.alloc (.cells (fcells f ao cap) 59)).alloc (.cells (tcells t az ps al pl au pu) 26)) := (keep_box _).alloc _
  have hf1 := hf.keepF (hG.same K1) (fun _ h => h)
  have ht1 := ht.keepF (hG.same K1) (fun _ h => h)
  have N1 := null_any hf1 ht1 v
  rw [hnull] at N1
  have hkd : (f.kind == 11) = false := by rw [h10]; rfl
  have hkd2 : (f.kind == 10) = true := by rw [h10]; rfl
  have e0 : ((1 : Nat) : Int) = 1 := rfl
  have F1 := fun W => fixed_any 1 1 (by decide) W
  rw [e0] at F1
  have HB : Hid _ := hb
  clear hf ht hl hu hs hf1 ht1 h10 hnull e0 hsub hb
  go_enter Tryd.func100, Tryd.ntmps100
  go_wp2_with (first
    | (go_at_call 124; refine N1.mono ?_; rintro e w1 ⟨rfl, hk1⟩; obtain ⟨q0, q1, q2, q3, q4, q5, q6, q7⟩ := fbox (twoBoxes hk1).1; obtain ⟨r0, r1, r2, r3, r4⟩ := tbox (twoBoxes hk1).2; clear q1 q2 q4 q5))
  have hw1 : w.heap.size + 2 ≤ w1.heap.size := by have := hk1.size; simp at this; omega
  go_region_held3 (fun w' => w'.cell? ⟨w.heap.size, 7, none⟩ = some (.slice ao f.sub.length cap) ∧ w'.cell? ⟨w.heap.size + 1, 0, none⟩ = some (.int .i64 t.n) ∧ w'.cell? ⟨w.heap.size + 1, 1, none⟩ = some (.slice az t.s.length ps) ∧
      w'.cell? ⟨w.heap.size + 1, 2, none⟩ = some (.bool t.null) ∧ w'.cell? ⟨w.heap.size + 1, 3, none⟩ = some (.slice al t.l.length pl) ∧ w'.cell? ⟨w.heap.size + 1, 4, none⟩ = some (.slice au t.u.length pu)) (go_keep) (first
    | (go_at_call 97; refine (F1 _).mono ?_; rintro e wa ⟨da, rfl, ha0, ka⟩; have ha := ha0.lower (B' := w.heap.size + 2) (by first | exact hw1 | exact Nat.le_trans hw1 kB.size); have kA : Keep [] w1 wa := (by first | exact (Keep.refl _ _).drew.trans ka | exact kB.trans ka); have kAc0 := kA.cell (p := ⟨w.heap.size, 7, none⟩) (show w.heap.size < w1.heap.size by omega) (by simp); have kAc1 := kA.cell (p := ⟨w.heap.size + 1, 0, none⟩) (show w.heap.size + 1 < w1.heap.size by omega) (by simp); have kAc2 := kA.cell (p := ⟨w.heap.size + 1, 1, none⟩) (show w.heap.size + 1 < w1.heap.size by omega) (by simp); have kAc3 := kA.cell (p := ⟨w.heap.size + 1, 2, none⟩) (show w.heap.size + 1 < w1.heap.size by omega) (by simp); have kAc4 := kA.cell (p := ⟨w.heap.size + 1, 3, none⟩) (show w.heap.size + 1 < w1.heap.size by omega) (by simp); have kAc5 := kA.cell (p := ⟨w.heap.size + 1, 4, none⟩) (show w.heap.size + 1 < w1.heap.size by omega) (by simp))
    | (go_at_call 47; refine (PP _ (by first | exact K1.trans (hk1.trans (Keep.refl _ _).drew) | exact K1.trans (hk1.trans kA))).mono ?_; rintro e wb ⟨db, rfl, hb0, kb⟩; have hb := hb0.lower (B' := w.heap.size + 2) (by first | exact hw1 | exact Nat.le_trans hw1 kA.size); have kB : Keep [] w1 wb := (by first | exact (Keep.refl _ _).drew.trans kb | exact kA.trans kb); have kBc0 := kB.cell (p := ⟨w.heap.size, 7, none⟩) (show w.heap.size < w1.heap.size by omega) (by simp); have kBc1 := kB.cell (p := ⟨w.heap.size + 1, 0, none⟩) (show w.heap.size + 1 < w1.heap.size by omega) (by simp); have kBc2 := kB.cell (p := ⟨w.heap.size + 1, 1, none⟩) (show w.heap.size + 1 < w1.heap.size by omega) (by simp); have kBc3 := kB.cell (p := ⟨w.heap.size + 1, 2, none⟩) (show w.heap.size + 1 < w1.heap.size by omega) (by simp); have kBc4 := kB.cell (p := ⟨w.heap.size + 1, 3, none⟩) (show w.heap.size + 1 < w1.heap.size by omega) (by simp); have kBc5 := kB.cell (p := ⟨w.heap.size + 1, 4, none⟩) (show w.heap.size + 1 < w1.heap.size by omega) (by simp))
    | (refine app_step (by rfl) (.tmp 59) (.tmp 65) (by rfl) (w.heap.size + 2) _ (fixedP 1 1) (by rfl) (ha.keep kb) _ _ _ (by rfl) hb.rb (by have := HB.out; rw [fixedP_len]; omega) (Nat.le_trans hw1 kB.size) ?_; intro v' w3 ho hg; have hsz : w.heap.size + 2 ≤ _ := Nat.le_trans hw1 kB.size; have hout := (K1.trans (hk1.trans kB)).grown hg (fun k e => .inr (by have := ((ha.keep kb).lt k e).1; omega)); have oc0 := own_cell (ha.keep kb) hg (p := ⟨w.heap.size, 7, none⟩) (show w.heap.size < w.heap.size + 2 by omega) (by first | omega | (simp at hsz; omega)); have oc1 := own_cell (ha.keep kb) hg (p := ⟨w.heap.size + 1, 0, none⟩) (show w.heap.size + 1 < w.heap.size + 2 by omega) (by first | omega | (simp at hsz; omega)); have oc2 := own_cell (ha.keep kb) hg (p := ⟨w.heap.size + 1, 1, none⟩) (show w.heap.size + 1 < w.heap.size + 2 by omega) (by first | omega | (simp at hsz; omega)); have oc3 := own_cell (ha.keep kb) hg (p := ⟨w.heap.size + 1, 2, none⟩) (show w.heap.size + 1 < w.heap.size + 2 by omega) (by first | omega | (simp at hsz; omega)); have oc4 := own_cell (ha.keep kb) hg (p := ⟨w.heap.size + 1, 3, none⟩) (show w.heap.size + 1 < w.heap.size + 2 by omega) (by first | omega | (simp at hsz; omega)); have oc5 := own_cell (ha.keep kb) hg (p := ⟨w.heap.size + 1, 4, none⟩) (show w.heap.size + 1 < w.heap.size + 2 by omega) (by first | omega | (simp at hsz; omega)))
    | (refine app_step (by rfl) (.tmp 59) (.tmp 65) (by rfl) (w.heap.size + 2) _ (fixedP 1 1) (by rfl) ha _ _ _ (by rfl) (hb.keep ka).rb (by have := HB.out; rw [fixedP_len]; omega) (Nat.le_trans hw1 kA.size) ?_; intro v' w3 ho hg; have hsz : w.heap.size + 2 ≤ _ := Nat.le_trans hw1 kA.size; have hout := (K1.trans (hk1.trans kA)).grown hg (fun k e => .inr (by have := (ha.lt k e).1; omega)); have oc0 := own_cell (ha) hg (p := ⟨w.heap.size, 7, none⟩) (show w.heap.size < w.heap.size + 2 by omega) (by first | omega | (simp at hsz; omega)); have oc1 := own_cell (ha) hg (p := ⟨w.heap.size + 1, 0, none⟩) (show w.heap.size + 1 < w.heap.size + 2 by omega) (by first | omega | (simp at hsz; omega)); have oc2 := own_cell (ha) hg (p := ⟨w.heap.size + 1, 1, none⟩) (show w.heap.size + 1 < w.heap.size + 2 by omega) (by first | omega | (simp at hsz; omega)); have oc3 := own_cell (ha) hg (p := ⟨w.heap.size + 1, 2, none⟩) (show w.heap.size + 1 < w.heap.size + 2 by omega) (by first | omega | (simp at hsz; omega)); have oc4 := own_cell (ha) hg (p := ⟨w.heap.size + 1, 3, none⟩) (show w.heap.size + 1 < w.heap.size + 2 by omega) (by first | omega | (simp at hsz; omega)); have oc5 := own_cell (ha) hg (p := ⟨w.heap.size + 1, 4, none⟩) (show w.heap.size + 1 < w.heap.size + 2 by omega) (by first | omega | (simp at hsz; omega))))
  all_goals
    go_wp2
    go_ret
    exact ⟨_, rfl, ho.lower (by omega), hout⟩

set_option maxHeartbeats 400000 in
set_option maxRecDepth 100000 in
theorem field_value {f : F} {v : Int} {flex : Bool} (hp : PartSaid f.sub v flex) {G : Nat → Prop} {c : List Value} {t : T} {ct : List Value} {w : World} (hf : HF w G f c) (ht : HT w G t ct) (hG : There G w)
    (h11 : ¬ f.kind = 11) (h10 : ¬ (f.kind = 10 ∧ 0 ≤ f.nul)) (hb : (valueP f.kind (partP f.sub v flex) (f.isNull v t) flex t).length ≤ 1099511627776) :
    Calls Tryd.prog 100 #[.agg c.toArray, .int .i64 v, .bool flex, .agg ct.toArray] w fun e w' => ∃ d, e = .returned d ∧ OB w' w.heap.size d (valueP f.kind (partP f.sub v flex) (f.isNull v t) flex t) ∧ Keep [] w w' := by
  obtain ⟨ao, cap, rfl, hsub⟩ := hf.cells
  have VV := fun W (hW : Keep [] w W) => value_any (kind := f.kind) (null := f.isNull v t) hp (hsub.keepF (hG.same hW) (fun _ h => h)) (ht.keepF (hG.same hW) (fun _ h => h)) (hG.keep hW) hb
  obtain ⟨az, ps, al, pl, au, pu, rfl, hs, hl, hu, hn1, hn2, hn3, hn4⟩ := ht.cells
  have K1 : Keep [] w ((w.alloc (.cells (fcells f ao cap) 59)).alloc (.cells (tcells t az ps al pl au pu) 26)) := (keep_box _).alloc _
  have hf1 := hf.keepF (hG.same K1) (fun _ h => h)
  have ht1 := ht.keepF (hG.same K1) (fun _ h => h)
  have N1 := null_any hf1 ht1 v
  have hkd : (f.kind == 11) = false := by simpa using h11
  generalize f.isNull v t = nl at *
  by_cases k10 : f.kind = 10
  · have hkd2 : (f.kind == 10) = true := by simpa using k10
    have hng : f.nul < 0 := by
      rcases Int.lt_or_le f.nul 0 with h | h
      · exact h
      · exact absurd ⟨k10, h⟩ h10
    clear hf ht hl hu hs hf1 ht1 h11 hsub hb h10 k10
    go_enter Tryd.func100, Tryd.ntmps100
    go_wp2_with (first
      | (go_at_call 124; refine N1.mono ?_; rintro e w1 ⟨rfl, hk1⟩; obtain ⟨q0, q1, q2, q3, q4, q5, q6, q7⟩ := fbox (twoBoxes hk1).1; obtain ⟨r0, r1, r2, r3, r4⟩ := tbox (twoBoxes hk1).2; clear q1 q2 q4 q5)
      | (go_at_call 134; refine (VV _ (K1.trans hk1)).mono ?_; rintro e w2 ⟨d2, rfl, ho2, hk2⟩))
    go_ret
    exact ⟨_, rfl, ho2.lower (K1.trans hk1).size, K1.trans (hk1.trans hk2)⟩
  · have hkd2 : (f.kind == 10) = false := by simpa using k10
    clear hf ht hl hu hs hf1 ht1 h11 hsub hb h10 k10
    go_enter Tryd.func100, Tryd.ntmps100
    go_wp2_with (first
      | (go_at_call 124; refine N1.mono ?_; rintro e w1 ⟨rfl, hk1⟩; obtain ⟨q0, q1, q2, q3, q4, q5, q6, q7⟩ := fbox (twoBoxes hk1).1; obtain ⟨r0, r1, r2, r3, r4⟩ := tbox (twoBoxes hk1).2; clear q1 q2 q4 q5)
      | (go_at_call 134; refine (VV _ (K1.trans hk1)).mono ?_; rintro e w2 ⟨d2, rfl, ho2, hk2⟩))
    go_ret
    exact ⟨_, rfl, ho2.lower (K1.trans hk1).size, K1.trans (hk1.trans hk2)⟩

theorem field_any {f : F} {v : Int} {flex : Bool} (hp : PartSaid f.sub v flex) : FieldSaid f v flex := by
  intro G c t ct w hf ht hG hb
  rw [fieldP_eq] at hb ⊢
  unfold fieldOf at hb ⊢
  cases hn : f.isNull v t
  · simp only [hn] at hb ⊢
    by_cases h11 : f.kind = 11
    · simp only [h11, if_true, Bool.false_eq_true, if_false] at hb ⊢
      exact field_list hp hf ht hG h11 hn hb
    · by_cases h10 : f.kind = 10 ∧ 0 ≤ f.nul
      · simp only [if_neg h11, if_pos h10, Bool.false_eq_true, if_false] at hb ⊢
        exact field_ptr hp hf ht hG h10.1 h10.2 hn (by rw [List.length_append] at hb; omega)
      · simp only [if_neg h11, if_neg h10] at hb ⊢
        have := field_value hp hf ht hG h11 h10 (by rw [hn]; exact hb)
        rw [hn] at this
        exact this
  · simp only [hn] at hb ⊢
    by_cases h11 : f.kind = 11
    · simp only [h11, if_true] at hb ⊢
      have := field_list_null (flex := flex) hf ht hG h11 hn
      simpa using this
    · by_cases h10 : f.kind = 10 ∧ 0 ≤ f.nul
      · simp only [if_neg h11, if_pos h10, if_true] at hb ⊢
        exact field_ptr_null hf ht hG h10.1 h10.2 hn
      · simp only [if_neg h11, if_neg h10] at hb ⊢
        have := field_value hp hf ht hG h11 h10 (by rw [hn]; exact hb)
        rw [hn] at this
        exact this
end Go.Proofs.YtnemimighhpcaaaDoor
