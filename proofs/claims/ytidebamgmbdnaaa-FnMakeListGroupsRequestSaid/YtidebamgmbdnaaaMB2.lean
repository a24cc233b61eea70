/-
  spec.field: what is written of a field. The part's contract is handed over.
-/
import Derived.Test.YtidebamgmbdnaaaMB1
import Derived.Deep.AppendLies
import Derived.Deep.RegionLaw
namespace Go.Proofs.Ytidebamgmbdnaaa
open Go.ChangeShapes Go.WideShapes Go.ChangeAt Go.RowKit

/-- what spec.field promises of this field -/
def FieldSaid (f : F) (v : Int) (flex : Bool) : Prop :=
  ∀ (G : Nat → Prop) (c : List Value) (t : T) (ct : List Value) (w : World), HF w G f c → HT w G t ct → There G w → (fieldP f v flex t).length ≤ 36000000000000 →
    Calls Try.prog 75 #[.agg c.toArray, .int .i64 v, .bool flex, .agg ct.toArray] w fun e w' => ∃ d, e = .returned d ∧ OB w' w.heap.size d (fieldP f v flex t) ∧ Keep [] w w'

abbrev fcells (f : F) (ao : Option Addr) (cap : Nat) : Array Value := #[.int .i64 f.kind, .int .i64 f.frm, .int .i64 f.to, .int .i64 f.nul, .int .i64 f.tag, .int .i64 f.dfl, .int .i64 f.ofk, .slice ao f.sub.length cap]
abbrev tcells (t : T) (az : Option Addr) (ps : Nat) (al : Option Addr) (pl : Nat) (au : Option Addr) (pu : Nat) : Array Value := #[.int .i64 t.n, .slice az t.s.length ps, .bool t.null, .slice al t.l.length pl, .slice au t.u.length pu]

theorem cellOf {w : World} {b : Nat} {c : Array Value} {t : TypeId} {f : Nat × Nat} (h : w.heap[b]? = some (.cells c t f)) (i : Nat) (v : Value) (hv : c[i]? = some v) : w.cell? ⟨b, i, none⟩ = some v := by
  simp [World.cell?, h, hv]
theorem fbox {w : World} {b : Nat} {f : F} {ao : Option Addr} {cap : Nat} {T' : TypeId} {z : Nat × Nat} (h : w.heap[b]? = some (.cells (fcells f ao cap) T' z)) :
    w.cell? ⟨b, 0, none⟩ = some (.int .i64 f.kind) ∧ w.cell? ⟨b, 1, none⟩ = some (.int .i64 f.frm) ∧ w.cell? ⟨b, 2, none⟩ = some (.int .i64 f.to) ∧ w.cell? ⟨b, 3, none⟩ = some (.int .i64 f.nul) ∧
    w.cell? ⟨b, 4, none⟩ = some (.int .i64 f.tag) ∧ w.cell? ⟨b, 5, none⟩ = some (.int .i64 f.dfl) ∧ w.cell? ⟨b, 6, none⟩ = some (.int .i64 f.ofk) ∧ w.cell? ⟨b, 7, none⟩ = some (.slice ao f.sub.length cap) :=
  ⟨cellOf h 0 _ rfl, cellOf h 1 _ rfl, cellOf h 2 _ rfl, cellOf h 3 _ rfl, cellOf h 4 _ rfl, cellOf h 5 _ rfl, cellOf h 6 _ rfl, cellOf h 7 _ rfl⟩
theorem tbox {w : World} {b : Nat} {t : T} {az : Option Addr} {ps : Nat} {al : Option Addr} {pl : Nat} {au : Option Addr} {pu : Nat} {T' : TypeId} {z : Nat × Nat} (h : w.heap[b]? = some (.cells (tcells t az ps al pl au pu) T' z)) :
    w.cell? ⟨b, 0, none⟩ = some (.int .i64 t.n) ∧ w.cell? ⟨b, 1, none⟩ = some (.slice az t.s.length ps) ∧ w.cell? ⟨b, 2, none⟩ = some (.bool t.null) ∧ w.cell? ⟨b, 3, none⟩ = some (.slice al t.l.length pl) ∧ w.cell? ⟨b, 4, none⟩ = some (.slice au t.u.length pu) :=
  ⟨cellOf h 0 _ rfl, cellOf h 1 _ rfl, cellOf h 2 _ rfl, cellOf h 3 _ rfl, cellOf h 4 _ rfl⟩
/-- a field's box and a tree's box, cell by cell -/
abbrev FTS (f : F) (aS : Option Addr) (pS : Nat) (t : T) (az : Option Addr) (ps : Nat) (al : Option Addr) (pl : Nat) (au : Option Addr) (pu : Nat) (b1 b2 : Nat) (w' : World) : Prop := w'.cell? ⟨b1, 0, none⟩ = some (.int .i64 f.kind) ∧ w'.cell? ⟨b1, 1, none⟩ = some (.int .i64 f.frm) ∧ w'.cell? ⟨b1, 2, none⟩ = some (.int .i64 f.to) ∧ w'.cell? ⟨b1, 3, none⟩ = some (.int .i64 f.nul) ∧ w'.cell? ⟨b1, 4, none⟩ = some (.int .i64 f.tag) ∧ w'.cell? ⟨b1, 5, none⟩ = some (.int .i64 f.dfl) ∧ w'.cell? ⟨b1, 6, none⟩ = some (.int .i64 f.ofk) ∧ w'.cell? ⟨b1, 7, none⟩ = some (.slice aS f.sub.length pS) ∧ w'.cell? ⟨b2, 0, none⟩ = some (.int .i64 t.n) ∧ w'.cell? ⟨b2, 1, none⟩ = some (.slice az t.s.length ps) ∧ w'.cell? ⟨b2, 2, none⟩ = some (.bool t.null) ∧ w'.cell? ⟨b2, 3, none⟩ = some (.slice al t.l.length pl) ∧ w'.cell? ⟨b2, 4, none⟩ = some (.slice au t.u.length pu)
theorem FTS.of {f : F} {aS : Option Addr} {pS : Nat} {t : T} {az : Option Addr} {ps : Nat} {al : Option Addr} {pl : Nat} {au : Option Addr} {pu b1 b2 : Nat} {w : World} {T1 T2 : TypeId} {z1 z2 : Nat × Nat}
    (h1 : w.heap[b1]? = some (.cells (fcells f aS pS) T1 z1)) (h2 : w.heap[b2]? = some (.cells (tcells t az ps al pl au pu) T2 z2)) : FTS f aS pS t az ps al pl au pu b1 b2 w := by
  obtain ⟨q0, q1, q2, q3, q4, q5, q6, q7⟩ := fbox h1
  obtain ⟨r0, r1, r2, r3, r4⟩ := tbox h2
  exact ⟨q0, q1, q2, q3, q4, q5, q6, q7, r0, r1, r2, r3, r4⟩
theorem SameOn.via {G : Nat → Prop} {w w1 w2 : World} (h1 : SameOn G w w1) (h2 : SameOn G w w2) : SameOn G w1 w2 := fun k hk => (h2 k hk).trans (h1 k hk).symm
theorem oneBox {w w1 : World} {o1 : Obj} (h : Keep [] (w.alloc o1) w1) : w1.heap[w.heap.size]? = some o1 := by
  rw [h.block _ (by simp) (by simp)]
  exact heap_alloc_new w o1
theorem twoBoxes {w w1 : World} {o1 o2 : Obj} (h : Keep [] ((w.alloc o1).alloc o2) w1) : w1.heap[w.heap.size]? = some o1 ∧ w1.heap[w.heap.size + 1]? = some o2 := by
  constructor
  · rw [h.block _ (by simp; omega) (by simp), Below.heap_alloc _ _ _ (by simp)]
    exact heap_alloc_new w o1
  · rw [h.block _ (by simp) (by simp)]
    exact alloc_at2 _ _ _

theorem take_flat {α : Type} (L : List α) (g : α → Bs) (n : Nat) (hn : n < L.length) : (L.take (n + 1)).flatMap g = (L.take n).flatMap g ++ g L[n] := by
  rw [List.take_succ_eq_append_getElem hn, List.flatMap_append]; simp
theorem take_flat_le {α : Type} (L : List α) (g : α → Bs) (n : Nat) : ((L.take n).flatMap g).length ≤ (L.flatMap g).length := by
  have : L.flatMap g = (L.take n).flatMap g ++ (L.drop n).flatMap g := by rw [← List.flatMap_append, List.take_append_drop]
  rw [this, List.length_append]; omega

set_option maxHeartbeats 400000 in
set_option maxRecDepth 100000 in
theorem field_list {f : F} {v : Int} {flex : Bool} (hp : PartSaid f.sub v flex) {G : Nat → Prop} {c : List Value} {t : T} {ct : List Value} {w : World} (hf : HF w G f c) (ht : HT w G t ct) (hG : There G w)
    (h11 : f.kind = 11) (hnull : f.isNull v t = false)
    (hb : (countedP flex false (things t.l).length 4 ++ (things t.l).flatMap fun x => valueP f.ofk (partP f.sub v flex) false flex x).length ≤ 36000000000000) :
    Calls Try.prog 75 #[.agg c.toArray, .int .i64 v, .bool flex, .agg ct.toArray] w fun e w' => ∃ d, e = .returned d ∧ OB w' w.heap.size d (countedP flex false (things t.l).length 4 ++ (things t.l).flatMap fun x => valueP f.ofk (partP f.sub v flex) false flex x) ∧ Keep [] w w' := by
  obtain ⟨ao, cap, rfl, hsub⟩ := hf.cells
  obtain ⟨az, ps, al, pl, au, pu, rfl, hs, hl, hu, hn1, hn2, hn3, hn4⟩ := ht.cells
  have K1 : Keep [] w ((w.alloc (.cells (fcells f ao cap) 50)).alloc (.cells (tcells t az ps al pl au pu) 26)) := (keep_box _).alloc _
  have hG1 := hG.keep K1
  have hf1 := hf.keepF (hG.same K1) (fun _ h => h)
  have ht1 := ht.keepF (hG.same K1) (fun _ h => h)
  have hl1 := hl.keepF (hG.same K1) (fun _ h => h)
  have hsub1 := hsub.keepF (hG.same K1) (fun _ h => h)
  have N1 := null_any hf1 ht1 v
  rw [hnull] at N1
  have HB : Hid ((countedP flex false (things t.l).length 4 ++ (things t.l).flatMap fun x => valueP f.ofk (partP f.sub v flex) false flex x).length ≤ 36000000000000) := hb
  have hkd : (f.kind == 11) = true := by rw [h11]; rfl
  clear hf ht hl hu hs hf1 ht1 h11 hnull hb
  go_enter Try.func75, Try.ntmps75
  go_wp2_with (first
    | (go_at_call 71; refine N1.mono ?_; rintro e w1 ⟨rfl, hk1⟩; obtain ⟨q0, q1, q2, q3, q4, q5, q6, q7⟩ := fbox (twoBoxes hk1).1; obtain ⟨r0, r1, r2, r3, r4⟩ := tbox (twoBoxes hk1).2; clear q1 q2 q4 q5)
    | (go_at_call 72; refine (things_any (hl1.keepF (hG1.same hk1) (fun _ h => h))).mono ?_; rintro e w2 ⟨dl, rfl, hdl, rfl⟩; obtain ⟨aL, pL, rfl, hpL⟩ := hdl.shape)
    | (go_at_call 103; refine (counted_any flex false _ 4 (by have := hdl.bd; omega) (by decide) _).mono ?_; rintro e w2 ⟨d2, rfl, ho2, hk2⟩))
  have hLb := hdl.bd
  have ho2' : OB w2 (w.heap.size + 2) d2 _ := ho2.lower (by have := hk1.size; simp at this; omega)
  have hk12 := hk1.trans hk2
  generalize hLe : things t.l = L at *
  have HLE : Hid (things t.l = L) := hLe
  clear hLe
  clear q0 q3 q6 q7 r0 r1 r2 r3 r4 hkd N1 hsub ho2 hl1 hk2
  go_loopw [11, 31] (fun o k wr => ∃ n : Nat, n ≤ L.length ∧ k = .int .i64 n ∧ ∃ acc : Bs, Hid (acc = countedP flex false L.length 4 ++ (L.take n).flatMap fun x => valueP f.ofk (partP f.sub v flex) false flex x) ∧ OB wr (w.heap.size + 2) o acc ∧ Keep [] ((w.alloc (.cells (fcells f ao cap) 50)).alloc (.cells (tcells t az ps al pl au pu) 26)) wr) (fun _ k _ => L.length - (intOf k).toNat)
  case atStart => exact ⟨0, Nat.zero_le _, rfl, _, by simp [Hid], ho2', hk12⟩
  case round =>
    obtain ⟨n, hn, rfl, acc, hacc, hown, hkeep⟩ := hrel
    obtain ⟨q0, q1, q2, q3, q4, q5, q6, q7⟩ := fbox (twoBoxes hkeep).1
    have hBr : w.heap.size + 2 ≤ wr.heap.size := by have := hkeep.size; simp at this; omega
    have hGr := hG1.keep hkeep
    clear q0 q1 q2 q3 q4 q5
    by_cases hlt : n < L.length
    · obtain ⟨b, o, cp, c, e, hcp, hGb, hc, hcell⟩ := (hdl.keepF (SameOn.via (hG1.same hk1) (hG1.same hkeep)) (fun _ h => h)).elem hlt
      cases e
      obtain ⟨az', ps', al', pl', au', pu', rfl, _⟩ := id hc.cells
      have hblt : b < wr.heap.size := hGr b hGb
      have hbw : b < w.heap.size := hG b hGb
      have c0 : wr.cell? ⟨b, o + n * 5, none⟩ = some _ := hcell 0 (by simp)
      have c1 : wr.cell? ⟨b, o + n * 5 + 1, none⟩ = some _ := hcell 1 (by simp)
      have c2 : wr.cell? ⟨b, o + n * 5 + 2, none⟩ = some _ := hcell 2 (by simp)
      have c3 : wr.cell? ⟨b, o + n * 5 + 3, none⟩ = some _ := hcell 3 (by simp)
      have c4 : wr.cell? ⟨b, o + n * 5 + 4, none⟩ = some _ := hcell 4 (by simp)
      simp only [List.getElem_cons_zero, List.getElem_cons_succ] at c0 c1 c2 c3 c4
      clear hcell
      have hbd : acc.length + (valueP f.ofk (partP f.sub v flex) false flex L[n]).length ≤ 36000000000000 := by
        have e1 := take_flat L (fun x => valueP f.ofk (partP f.sub v flex) false flex x) n hlt
        have e2 := take_flat_le L (fun x => valueP f.ofk (partP f.sub v flex) false flex x) (n + 1)
        have e3 := HB.out
        have e4 := hacc.out
        rw [e1] at e2
        rw [e4]
        simp only [List.length_append] at e2 e3 ⊢
        omega
      have V : ∀ W, Keep [] wr W → _ := fun W hW => value_any (kind := f.ofk) (null := false) hp (hsub1.keepF (hG1.same (hkeep.trans hW)) (fun _ h => h)) (hc.keepF (hGr.same hW) (fun _ h => h)) (hG1.keep (hkeep.trans hW)) (by omega)
      generalize hLn : L[n] = x at *
      have HLN : Hid (L[n] = x) := hLn
      have HBD : Hid _ := hbd
      clear hLn hbd hc
      go_wp2_with fail
      go_region_held3 (fun w' => w'.cell? ⟨w.heap.size, 6, none⟩ = some (.int .i64 f.ofk) ∧ w'.cell? ⟨w.heap.size, 7, none⟩ = some (.slice ao f.sub.length cap) ∧ w'.cell? ⟨b, o + n * 5, none⟩ = some (.int .i64 x.n) ∧ w'.cell? ⟨b, o + n * 5 + 1, none⟩ = some (.slice az' x.s.length ps') ∧
          w'.cell? ⟨b, o + n * 5 + 2, none⟩ = some (.bool x.null) ∧ w'.cell? ⟨b, o + n * 5 + 3, none⟩ = some (.slice al' x.l.length pl') ∧ w'.cell? ⟨b, o + n * 5 + 4, none⟩ = some (.slice au' x.u.length pu')) (go_keep) (first
        | (go_at_call 104; refine (V _ (Keep.refl _ _).drew).mono ?_; rintro e w' ⟨d, rfl, h1, h2⟩; have h3 : Keep [] wr w' := (Keep.refl _ _).drew.trans h2; have hown2 := hown.keep h3; have h3c0 := h3.cell (p := ⟨w.heap.size, 6, none⟩) (show w.heap.size < wr.heap.size by omega) (by simp); have h3c1 := h3.cell (p := ⟨w.heap.size, 7, none⟩) (show w.heap.size < wr.heap.size by omega) (by simp); have h3c2 := h3.cell (p := ⟨b, o + n * 5, none⟩) (show b < wr.heap.size by omega) (by simp); have h3c3 := h3.cell (p := ⟨b, o + n * 5 + 1, none⟩) (show b < wr.heap.size by omega) (by simp); have h3c4 := h3.cell (p := ⟨b, o + n * 5 + 2, none⟩) (show b < wr.heap.size by omega) (by simp); have h3c5 := h3.cell (p := ⟨b, o + n * 5 + 3, none⟩) (show b < wr.heap.size by omega) (by simp); have h3c6 := h3.cell (p := ⟨b, o + n * 5 + 4, none⟩) (show b < wr.heap.size by omega) (by simp))
        | (refine app_step (by rfl) (.tmp 34) (.tmp 45) (by rfl) (w.heap.size + 2) _ acc (by rfl) hown2 _ _ _ (by rfl) h1.rb (by have := HBD.out; omega) (by have := h2.size; simp at this; omega) ?_; intro v' w3 ho hg; have hsz := h2.size; have oc0 := own_cell (hown2) hg (p := ⟨w.heap.size, 6, none⟩) (show w.heap.size < w.heap.size + 2 by omega) (by first | omega | (simp at hsz; omega)); have oc1 := own_cell (hown2) hg (p := ⟨w.heap.size, 7, none⟩) (show w.heap.size < w.heap.size + 2 by omega) (by first | omega | (simp at hsz; omega)); have oc2 := own_cell (hown2) hg (p := ⟨b, o + n * 5, none⟩) (show b < w.heap.size + 2 by omega) (by first | omega | (simp at hsz; omega)); have oc3 := own_cell (hown2) hg (p := ⟨b, o + n * 5 + 1, none⟩) (show b < w.heap.size + 2 by omega) (by first | omega | (simp at hsz; omega)); have oc4 := own_cell (hown2) hg (p := ⟨b, o + n * 5 + 2, none⟩) (show b < w.heap.size + 2 by omega) (by first | omega | (simp at hsz; omega)); have oc5 := own_cell (hown2) hg (p := ⟨b, o + n * 5 + 3, none⟩) (show b < w.heap.size + 2 by omega) (by first | omega | (simp at hsz; omega)); have oc6 := own_cell (hown2) hg (p := ⟨b, o + n * 5 + 4, none⟩) (show b < w.heap.size + 2 by omega) (by first | omega | (simp at hsz; omega))))
      go_wp2
      go_roundw
      case rel =>
        refine ⟨n + 1, by omega, by go_num, _, ?_, ho, (hkeep.trans h3).grown hg fun k e => .inr (by have := (hown2.lt k e).1; simp; omega)⟩
        · have e1 := take_flat L (fun x => valueP f.ofk (partP f.sub v flex) false flex x) n hlt
          have e4 := hacc.out
          have e5 := HLN.out
          show _ = _
          rw [e1, e5, e4, List.append_assoc]
      case measure => simp [intOf]; omega
    · go_wp2
      go_ret
      refine ⟨_, rfl, ?_, K1.trans hkeep⟩
      have e4 := hacc.out
      rw [List.take_of_length_le (by omega)] at e4
      rw [HLE.out, ← e4]
      exact hown.lower (by omega)
end Go.Proofs.Ytidebamgmbdnaaa
/-
  spec.field: the other cases, and all of it.
-/
namespace Go.Proofs.Ytidebamgmbdnaaa
open Go.ChangeShapes Go.WideShapes Go.ChangeAt Go.RowKit

/-- a part's contract behind any steps that keep old memory -/
theorem PartSaid.at {fs : List F} {v : Int} {flex : Bool} (hp : PartSaid fs v flex) {G : Nat → Prop} {vs : Value} {t : T} {c : List Value} {w0 w : World} (hf : HFs w0 G vs fs) (ht : HT w0 G t c) (hG : There G w0) (hk : Keep [] w0 w)
    (hb : (partP fs v flex t).length ≤ 36000000000000) :
    Calls Try.prog 39 #[vs, .int .i64 v, .bool flex, .agg c.toArray] w fun e w' => ∃ d, e = .returned d ∧ OB w' w.heap.size d (partP fs v flex t) ∧ Keep [] w w' :=
  hp G vs t c w (hf.keepF (hG.same hk) (fun _ h => h)) (ht.keepF (hG.same hk) (fun _ h => h)) (hG.keep hk) hb

set_option maxHeartbeats 400000 in
set_option maxRecDepth 100000 in
theorem field_list_null {f : F} {v : Int} {flex : Bool} {G : Nat → Prop} {c : List Value} {t : T} {ct : List Value} {w : World} (hf : HF w G f c) (ht : HT w G t ct) (hG : There G w)
    (h11 : f.kind = 11) (hnull : f.isNull v t = true) :
    Calls Try.prog 75 #[.agg c.toArray, .int .i64 v, .bool flex, .agg ct.toArray] w fun e w' => ∃ d, e = .returned d ∧ OB w' w.heap.size d (countedP flex true 0 4) ∧ Keep [] w w' := by
  obtain ⟨ao, cap, rfl, hsub⟩ := hf.cells
  obtain ⟨az, ps, al, pl, au, pu, rfl, hs, hl, hu, hn1, hn2, hn3, hn4⟩ := ht.cells
  have K1 : Keep [] w ((w.alloc (.cells (fcells f ao cap) 50)).alloc (.cells (tcells t az ps al pl au pu) 26)) := (keep_box _).alloc _
  have hG1 := hG.keep K1
  have hf1 := hf.keepF (hG.same K1) (fun _ h => h)
  have ht1 := ht.keepF (hG.same K1) (fun _ h => h)
  have hl1 := hl.keepF (hG.same K1) (fun _ h => h)
  have N1 := null_any hf1 ht1 v
  rw [hnull] at N1
  have hkd : (f.kind == 11) = true := by rw [h11]; rfl
  have e0 : ((0 : Nat) : Int) = 0 := rfl
  have Z4 := fun W => counted_any flex true 0 4 (by omega) (by decide) W
  rw [e0] at Z4
  clear hf ht hl hu hs hf1 ht1 h11 hnull e0 hsub
  go_enter Try.func75, Try.ntmps75
  go_wp2_with (first
    | (go_at_call 71; refine N1.mono ?_; rintro e w1 ⟨rfl, hk1⟩; obtain ⟨q0, q1, q2, q3, q4, q5, q6, q7⟩ := fbox (twoBoxes hk1).1; obtain ⟨r0, r1, r2, r3, r4⟩ := tbox (twoBoxes hk1).2; clear q1 q2 q4 q5)
    | (go_at_call 72; refine (things_any (hl1.keepF (hG1.same hk1) (fun _ h => h))).mono ?_; rintro e w2 ⟨dl, rfl, hdl, rfl⟩; obtain ⟨aL, pL, rfl, hpL⟩ := hdl.shape)
    | (go_at_call 103; refine (Z4 _).mono ?_; rintro e w2 ⟨d2, rfl, ho2, hk2⟩))
  refine wp_loop_rounds 1 ?_
  rw [rounds_succ]
  go_wp2
  go_ret
  exact ⟨_, rfl, ho2.lower (by have := hk1.size; simp at this; omega), K1.trans (hk1.trans hk2)⟩

set_option maxHeartbeats 400000 in
set_option maxRecDepth 100000 in
theorem field_ptr_null {f : F} {v : Int} {flex : Bool} {G : Nat → Prop} {c : List Value} {t : T} {ct : List Value} {w : World} (hf : HF w G f c) (ht : HT w G t ct) (hG : There G w)
    (h10 : f.kind = 10) (hn : 0 ≤ f.nul) (hnull : f.isNull v t = true) :
    Calls Try.prog 75 #[.agg c.toArray, .int .i64 v, .bool flex, .agg ct.toArray] w fun e w' => ∃ d, e = .returned d ∧ OB w' w.heap.size d (fixedP (-1) 1) ∧ Keep [] w w' := by
  obtain ⟨ao, cap, rfl, hsub⟩ := hf.cells
  obtain ⟨az, ps, al, pl, au, pu, rfl, hs, hl, hu, hn1, hn2, hn3, hn4⟩ := ht.cells
  have K1 : Keep [] w ((w.alloc (.cells (fcells f ao cap) 50)).alloc (.cells (tcells t az ps al pl au pu) 26)) := (keep_box _).alloc _
  have hf1 := hf.keepF (hG.same K1) (fun _ h => h)
  have ht1 := ht.keepF (hG.same K1) (fun _ h => h)
  have N1 := null_any hf1 ht1 v
  rw [hnull] at N1
  have hkd : (f.kind == 11) = false := by rw [h10]; rfl
  have hkd2 : (f.kind == 10) = true := by rw [h10]; rfl
  have e0 : ((1 : Nat) : Int) = 1 := rfl
  have F1 := fun W => fixed_any (-1) 1 (by decide) W
  rw [e0] at F1
  clear hf ht hl hu hs hf1 ht1 h10 hnull e0 hsub
  go_enter Try.func75, Try.ntmps75
  go_wp2_with (first
    | (go_at_call 71; refine N1.mono ?_; rintro e w1 ⟨rfl, hk1⟩; obtain ⟨q0, q1, q2, q3, q4, q5, q6, q7⟩ := fbox (twoBoxes hk1).1; clear q1 q2 q4 q5)
    | (go_at_call 60; refine (F1 _).mono ?_; rintro e w2 ⟨d2, rfl, ho2, hk2⟩))
  go_ret
  exact ⟨_, rfl, ho2.lower (by have := hk1.size; simp at this; omega), K1.trans (hk1.trans hk2)⟩

set_option maxHeartbeats 400000 in
set_option maxRecDepth 100000 in
theorem field_ptr {f : F} {v : Int} {flex : Bool} (hp : PartSaid f.sub v flex) {G : Nat → Prop} {c : List Value} {t : T} {ct : List Value} {w : World} (hf : HF w G f c) (ht : HT w G t ct) (hG : There G w)
    (h10 : f.kind = 10) (hn : 0 ≤ f.nul) (hnull : f.isNull v t = false) (hb : (partP f.sub v flex t).length ≤ 36000000000000) :
    Calls Try.prog 75 #[.agg c.toArray, .int .i64 v, .bool flex, .agg ct.toArray] w fun e w' => ∃ d, e = .returned d ∧ OB w' w.heap.size d (fixedP 1 1 ++ partP f.sub v flex t) ∧ Keep [] w w' := by
  obtain ⟨ao, cap, rfl, hsub⟩ := hf.cells
  have PP := fun W (hW : Keep [] w W) => hp.at hsub ht hG hW hb
  obtain ⟨az, ps, al, pl, au, pu, rfl, hs, hl, hu, hn1, hn2, hn3, hn4⟩ := ht.cells
  have K1 : Keep [] w ((w.alloc (.cells (fcells f ao cap) 50)).alloc (.cells (tcells t az ps al pl au pu) 26)) := (keep_box _).alloc _
  have hf1 := hf.keepF (hG.same K1) (fun _ h => h)
  have ht1 := ht.keepF (hG.same K1) (fun _ h => h)
  have N1 := null_any hf1 ht1 v
  rw [hnull] at N1
  have hkd : (f.kind == 11) = false := by rw [h10]; rfl
  have hkd2 : (f.kind == 10) = true := by rw [h10]; rfl
  have e0 : ((1 : Nat) : Int) = 1 := rfl
  have F1 := fun W => fixed_any 1 1 (by decide) W
  rw [e0] at F1
  have HB : Hid _ := hb
  clear hf ht hl hu hs hf1 ht1 h10 hnull e0 hsub hb
  go_enter Try.func75, Try.ntmps75
  go_wp2_with (first
    | (go_at_call 71; refine N1.mono ?_; rintro e w1 ⟨rfl, hk1⟩; obtain ⟨q0, q1, q2, q3, q4, q5, q6, q7⟩ := fbox (twoBoxes hk1).1; obtain ⟨r0, r1, r2, r3, r4⟩ := tbox (twoBoxes hk1).2; clear q1 q2 q4 q5))
  have hw1 : w.heap.size + 2 ≤ w1.heap.size := by have := hk1.size; simp at this; omega
  go_region_held3 (fun w' => w'.cell? ⟨w.heap.size, 7, none⟩ = some (.slice ao f.sub.length cap) ∧ w'.cell? ⟨w.heap.size + 1, 0, none⟩ = some (.int .i64 t.n) ∧ w'.cell? ⟨w.heap.size + 1, 1, none⟩ = some (.slice az t.s.length ps) ∧
      w'.cell? ⟨w.heap.size + 1, 2, none⟩ = some (.bool t.null) ∧ w'.cell? ⟨w.heap.size + 1, 3, none⟩ = some (.slice al t.l.length pl) ∧ w'.cell? ⟨w.heap.size + 1, 4, none⟩ = some (.slice au t.u.length pu)) (go_keep) (first
    | (go_at_call 60; refine (F1 _).mono ?_; rintro e wa ⟨da, rfl, ha0, ka⟩; have ha := ha0.lower (B' := w.heap.size + 2) (by first | exact hw1 | exact Nat.le_trans hw1 kB.size); have kA : Keep [] w1 wa := (by first | exact (Keep.refl _ _).drew.trans ka | exact kB.trans ka); have kAc0 := kA.cell (p := ⟨w.heap.size, 7, none⟩) (show w.heap.size < w1.heap.size by omega) (by simp); have kAc1 := kA.cell (p := ⟨w.heap.size + 1, 0, none⟩) (show w.heap.size + 1 < w1.heap.size by omega) (by simp); have kAc2 := kA.cell (p := ⟨w.heap.size + 1, 1, none⟩) (show w.heap.size + 1 < w1.heap.size by omega) (by simp); have kAc3 := kA.cell (p := ⟨w.heap.size + 1, 2, none⟩) (show w.heap.size + 1 < w1.heap.size by omega) (by simp); have kAc4 := kA.cell (p := ⟨w.heap.size + 1, 3, none⟩) (show w.heap.size + 1 < w1.heap.size by omega) (by simp); have kAc5 := kA.cell (p := ⟨w.heap.size + 1, 4, none⟩) (show w.heap.size + 1 < w1.heap.size by omega) (by simp))
    | (go_at_call 39; refine (PP _ (by first | exact K1.trans (hk1.trans (Keep.refl _ _).drew) | exact K1.trans (hk1.trans kA))).mono ?_; rintro e wb ⟨db, rfl, hb0, kb⟩; have hb := hb0.lower (B' := w.heap.size + 2) (by first | exact hw1 | exact Nat.le_trans hw1 kA.size); have kB : Keep [] w1 wb := (by first | exact (Keep.refl _ _).drew.trans kb | exact kA.trans kb); have kBc0 := kB.cell (p := ⟨w.heap.size, 7, none⟩) (show w.heap.size < w1.heap.size by omega) (by simp); have kBc1 := kB.cell (p := ⟨w.heap.size + 1, 0, none⟩) (show w.heap.size + 1 < w1.heap.size by omega) (by simp); have kBc2 := kB.cell (p := ⟨w.heap.size + 1, 1, none⟩) (show w.heap.size + 1 < w1.heap.size by omega) (by simp); have kBc3 := kB.cell (p := ⟨w.heap.size + 1, 2, none⟩) (show w.heap.size + 1 < w1.heap.size by omega) (by simp); have kBc4 := kB.cell (p := ⟨w.heap.size + 1, 3, none⟩) (show w.heap.size + 1 < w1.heap.size by omega) (by simp); have kBc5 := kB.cell (p := ⟨w.heap.size + 1, 4, none⟩) (show w.heap.size + 1 < w1.heap.size by omega) (by simp))
    | (refine app_step (by rfl) (.tmp 59) (.tmp 65) (by rfl) (w.heap.size + 2) _ (fixedP 1 1) (by rfl) (ha.keep kb) _ _ _ (by rfl) hb.rb (by have := HB.out; rw [fixedP_len]; omega) (Nat.le_trans hw1 kB.size) ?_; intro v' w3 ho hg; have hsz : w.heap.size + 2 ≤ _ := Nat.le_trans hw1 kB.size; have hout := (K1.trans (hk1.trans kB)).grown hg (fun k e => .inr (by have := ((ha.keep kb).lt k e).1; omega)); have oc0 := own_cell (ha.keep kb) hg (p := ⟨w.heap.size, 7, none⟩) (show w.heap.size < w.heap.size + 2 by omega) (by first | omega | (simp at hsz; omega)); have oc1 := own_cell (ha.keep kb) hg (p := ⟨w.heap.size + 1, 0, none⟩) (show w.heap.size + 1 < w.heap.size + 2 by omega) (by first | omega | (simp at hsz; omega)); have oc2 := own_cell (ha.keep kb) hg (p := ⟨w.heap.size + 1, 1, none⟩) (show w.heap.size + 1 < w.heap.size + 2 by omega) (by first | omega | (simp at hsz; omega)); have oc3 := own_cell (ha.keep kb) hg (p := ⟨w.heap.size + 1, 2, none⟩) (show w.heap.size + 1 < w.heap.size + 2 by omega) (by first | omega | (simp at hsz; omega)); have oc4 := own_cell (ha.keep kb) hg (p := ⟨w.heap.size + 1, 3, none⟩) (show w.heap.size + 1 < w.heap.size + 2 by omega) (by first | omega | (simp at hsz; omega)); have oc5 := own_cell (ha.keep kb) hg (p := ⟨w.heap.size + 1, 4, none⟩) (show w.heap.size + 1 < w.heap.size + 2 by omega) (by first | omega | (simp at hsz; omega)))
    | (refine app_step (by rfl) (.tmp 59) (.tmp 65) (by rfl) (w.heap.size + 2) _ (fixedP 1 1) (by rfl) ha _ _ _ (by rfl) (hb.keep ka).rb (by have := HB.out; rw [fixedP_len]; omega) (Nat.le_trans hw1 kA.size) ?_; intro v' w3 ho hg; have hsz : w.heap.size + 2 ≤ _ := Nat.le_trans hw1 kA.size; have hout := (K1.trans (hk1.trans kA)).grown hg (fun k e => .inr (by have := (ha.lt k e).1; omega)); have oc0 := own_cell (ha) hg (p := ⟨w.heap.size, 7, none⟩) (show w.heap.size < w.heap.size + 2 by omega) (by first | omega | (simp at hsz; omega)); have oc1 := own_cell (ha) hg (p := ⟨w.heap.size + 1, 0, none⟩) (show w.heap.size + 1 < w.heap.size + 2 by omega) (by first | omega | (simp at hsz; omega)); have oc2 := own_cell (ha) hg (p := ⟨w.heap.size + 1, 1, none⟩) (show w.heap.size + 1 < w.heap.size + 2 by omega) (by first | omega | (simp at hsz; omega)); have oc3 := own_cell (ha) hg (p := ⟨w.heap.size + 1, 2, none⟩) (show w.heap.size + 1 < w.heap.size + 2 by omega) (by first | omega | (simp at hsz; omega)); have oc4 := own_cell (ha) hg (p := ⟨w.heap.size + 1, 3, none⟩) (show w.heap.size + 1 < w.heap.size + 2 by omega) (by first | omega | (simp at hsz; omega)); have oc5 := own_cell (ha) hg (p := ⟨w.heap.size + 1, 4, none⟩) (show w.heap.size + 1 < w.heap.size + 2 by omega) (by first | omega | (simp at hsz; omega))))
  all_goals
    go_wp2
    go_ret
    exact ⟨_, rfl, ho.lower (by omega), hout⟩

set_option maxHeartbeats 400000 in
set_option maxRecDepth 100000 in
theorem field_value {f : F} {v : Int} {flex : Bool} (hp : PartSaid f.sub v flex) {G : Nat → Prop} {c : List Value} {t : T} {ct : List Value} {w : World} (hf : HF w G f c) (ht : HT w G t ct) (hG : There G w)
    (h11 : ¬ f.kind = 11) (h10 : ¬ (f.kind = 10 ∧ 0 ≤ f.nul)) (hb : (valueP f.kind (partP f.sub v flex) (f.isNull v t) flex t).length ≤ 36000000000000) :
    Calls Try.prog 75 #[.agg c.toArray, .int .i64 v, .bool flex, .agg ct.toArray] w fun e w' => ∃ d, e = .returned d ∧ OB w' w.heap.size d (valueP f.kind (partP f.sub v flex) (f.isNull v t) flex t) ∧ Keep [] w w' := by
  obtain ⟨ao, cap, rfl, hsub⟩ := hf.cells
  have VV := fun W (hW : Keep [] w W) => value_any (kind := f.kind) (null := f.isNull v t) hp (hsub.keepF (hG.same hW) (fun _ h => h)) (ht.keepF (hG.same hW) (fun _ h => h)) (hG.keep hW) hb
  obtain ⟨az, ps, al, pl, au, pu, rfl, hs, hl, hu, hn1, hn2, hn3, hn4⟩ := ht.cells
  have K1 : Keep [] w ((w.alloc (.cells (fcells f ao cap) 50)).alloc (.cells (tcells t az ps al pl au pu) 26)) := (keep_box _).alloc _
  have hf1 := hf.keepF (hG.same K1) (fun _ h => h)
  have ht1 := ht.keepF (hG.same K1) (fun _ h => h)
  have N1 := null_any hf1 ht1 v
  have hkd : (f.kind == 11) = false := by simpa using h11
  generalize f.isNull v t = nl at *
  by_cases k10 : f.kind = 10
  · have hkd2 : (f.kind == 10) = true := by simpa using k10
    have hng : f.nul < 0 := by
      rcases Int.lt_or_le f.nul 0 with h | h
      · exact h
      · exact absurd ⟨k10, h⟩ h10
    clear hf ht hl hu hs hf1 ht1 h11 hsub hb h10 k10
    go_enter Try.func75, Try.ntmps75
    go_wp2_with (first
      | (go_at_call 71; refine N1.mono ?_; rintro e w1 ⟨rfl, hk1⟩; obtain ⟨q0, q1, q2, q3, q4, q5, q6, q7⟩ := fbox (twoBoxes hk1).1; obtain ⟨r0, r1, r2, r3, r4⟩ := tbox (twoBoxes hk1).2; clear q1 q2 q4 q5)
      | (go_at_call 104; refine (VV _ (K1.trans hk1)).mono ?_; rintro e w2 ⟨d2, rfl, ho2, hk2⟩))
    go_ret
    exact ⟨_, rfl, ho2.lower (K1.trans hk1).size, K1.trans (hk1.trans hk2)⟩
  · have hkd2 : (f.kind == 10) = false := by simpa using k10
    clear hf ht hl hu hs hf1 ht1 h11 hsub hb h10 k10
    go_enter Try.func75, Try.ntmps75
    go_wp2_with (first
      | (go_at_call 71; refine N1.mono ?_; rintro e w1 ⟨rfl, hk1⟩; obtain ⟨q0, q1, q2, q3, q4, q5, q6, q7⟩ := fbox (twoBoxes hk1).1; obtain ⟨r0, r1, r2, r3, r4⟩ := tbox (twoBoxes hk1).2; clear q1 q2 q4 q5)
      | (go_at_call 104; refine (VV _ (K1.trans hk1)).mono ?_; rintro e w2 ⟨d2, rfl, ho2, hk2⟩))
    go_ret
    exact ⟨_, rfl, ho2.lower (K1.trans hk1).size, K1.trans (hk1.trans hk2)⟩

theorem field_any {f : F} {v : Int} {flex : Bool} (hp : PartSaid f.sub v flex) : FieldSaid f v flex := by
  intro G c t ct w hf ht hG hb
  rw [fieldP_eq] at hb ⊢
  unfold fieldOf at hb ⊢
  cases hn : f.isNull v t
  · simp only [hn] at hb ⊢
    by_cases h11 : f.kind = 11
    · simp only [h11, if_true, Bool.false_eq_true, if_false] at hb ⊢
      exact field_list hp hf ht hG h11 hn hb
    · by_cases h10 : f.kind = 10 ∧ 0 ≤ f.nul
      · simp only [if_neg h11, if_pos h10, Bool.false_eq_true, if_false] at hb ⊢
        exact field_ptr hp hf ht hG h10.1 h10.2 hn (by rw [List.length_append] at hb; omega)
      · simp only [if_neg h11, if_neg h10] at hb ⊢
        have := field_value hp hf ht hG h11 h10 (by rw [hn]; exact hb)
        rw [hn] at this
        exact this
  · simp only [hn] at hb ⊢
    by_cases h11 : f.kind = 11
    · simp only [h11, if_true] at hb ⊢
      have := field_list_null (flex := flex) hf ht hG h11 hn
      simpa using this
    · by_cases h10 : f.kind = 10 ∧ 0 ≤ f.nul
      · simp only [if_neg h11, if_pos h10, if_true] at hb ⊢
        exact field_ptr_null hf ht hG h10.1 h10.2 hn
      · simp only [if_neg h11, if_neg h10] at hb ⊢
        have := field_value hp hf ht hG h11 h10 (by rw [hn]; exact hb)
        rw [hn] at this
        exact this
end Go.Proofs.Ytidebamgmbdnaaa
/-
  spec.part: its first loop, and all of it where the version is not flexible.
-/
namespace Go.Proofs.Ytidebamgmbdnaaa
open Go.ChangeShapes Go.WideShapes Go.ChangeAt Go.RowKit

theorem filter_take {α : Type} (L : List α) (p : α → Bool) (g : α → Bs) (n : Nat) (hn : n < L.length) :
    ((L.take (n + 1)).filter p).flatMap g = ((L.take n).filter p).flatMap g ++ if p L[n] then g L[n] else [] := by
  rw [List.take_succ_eq_append_getElem hn, List.filter_append, List.flatMap_append]
  by_cases h : p L[n] <;> simp [h]
theorem filter_take_le {α : Type} (L : List α) (p : α → Bool) (g : α → Bs) (n : Nat) : (((L.take n).filter p).flatMap g).length ≤ ((L.filter p).flatMap g).length := by
  have : (L.filter p).flatMap g = ((L.take n).filter p).flatMap g ++ ((L.drop n).filter p).flatMap g := by rw [← List.flatMap_append, ← List.filter_append, List.take_append_drop]
  rw [this, List.length_append]; omega

/-- the fields without tags, the first n of them -/
def plainTo (fs : List F) (v : Int) (flex : Bool) (t : T) (n : Nat) : Bs :=
  (((fieldsP fs v flex).zipIdx.take n).filter fun x => decide (x.1.1.tag < 0) && x.1.1.has v).flatMap fun x => x.1.2 (atT t x.2)
theorem fieldsP_length (fs : List F) (v : Int) (flex : Bool) : (fieldsP fs v flex).length = fs.length := by rw [fieldsP_map]; simp
theorem plainTo_all (fs : List F) (v : Int) (flex : Bool) (t : T) : plainTo fs v flex t fs.length = ((fieldsP fs v flex).zipIdx.filter fun x => decide (x.1.1.tag < 0) && x.1.1.has v).flatMap fun x => x.1.2 (atT t x.2) := by
  unfold plainTo
  rw [List.take_of_length_le (by simp [fieldsP_length])]
theorem plainTo_succ (fs : List F) (v : Int) (flex : Bool) (t : T) (n : Nat) (hn : n < fs.length) :
    plainTo fs v flex t (n + 1) = plainTo fs v flex t n ++ if (decide (fs[n].tag < 0) && fs[n].has v) = true then fieldP fs[n] v flex (atT t n) else [] := by
  unfold plainTo
  rw [filter_take _ _ _ n (by simp [fieldsP_length]; exact hn)]
  simp [fieldsP_map]
theorem plainTo_le (fs : List F) (v : Int) (flex : Bool) (t : T) (n : Nat) : (plainTo fs v flex t n).length ≤ (partP fs v flex t).length := by
  have h := filter_take_le (fieldsP fs v flex).zipIdx (fun x => decide (x.1.1.tag < 0) && x.1.1.has v) (fun x => x.1.2 (atT t x.2)) n
  unfold partP partOf plainTo
  cases flex
  · simpa using h
  · simp only [Bool.not_true, Bool.false_eq_true, if_false, List.length_append]
    omega

set_option maxHeartbeats 1000000 in
set_option maxRecDepth 100000 in
theorem part_plain {fs : List F} {v : Int} (hfs : ∀ f ∈ fs, FieldSaid f v false) : PartSaid fs v false := by
  intro G vs t c w hF ht hG hb
  have HB : Hid _ := hb
  have hFb := hF.bd
  obtain ⟨aF, pF, rfl, hpF⟩ := hF.shape
  obtain ⟨az, ps, al, pl, au, pu, rfl, hs, hl, hu, hn1, hn2, hn3, hn4⟩ := ht.cells
  have AT := fun W (hW : Keep [] w W) i => at_any (ht.keepF (hG.same hW) (fun _ h => h)) (hG.keep hW) i
  clear hb hs hl hu
  go_enter Try.func39, Try.ntmps39
  go_wp2_with fail
  go_loopw [9, 23] (fun o k wr => ∃ n : Nat, n ≤ fs.length ∧ k = .int .i64 n ∧ OB wr (w.heap.size + 1) o (plainTo fs v false t n) ∧ Keep [] (w.alloc (.cells (tcells t az ps al pl au pu) 26)) wr) (fun _ k _ => fs.length - (intOf k).toNat)
  case atStart => exact ⟨0, Nat.zero_le _, rfl, by simpa [plainTo] using OB.nil _ _, Keep.refl _ _⟩
  case round =>
    obtain ⟨n, hn, rfl, hown, hkeep⟩ := hrel
    have hk := (keep_box _).trans hkeep
    have hbox : wr.heap[w.heap.size]? = some (.cells (tcells t az ps al pl au pu) 26) := by
      rw [hkeep.block _ (by simp) (by simp)]
      exact heap_alloc_new w _
    obtain ⟨r0, r1, r2, r3, r4⟩ := tbox hbox
    have HBX : Hid _ := hbox
    have hBr : w.heap.size + 1 ≤ wr.heap.size := by have := hkeep.size; simp at this; omega
    have hGr := hG.keep hk
    clear hbox
    by_cases hlt : n < fs.length
    · obtain ⟨b, o, cp, cf, e, hcp, hGb, hc, hcell⟩ := (hF.keepF (hG.same hk) (fun _ h => h)).elem hlt
      cases e
      have FS := hfs fs[n] (List.getElem_mem hlt)
      have hsucc := plainTo_succ fs v false t n hlt
      have hle := plainTo_le fs v false t (n + 1)
      obtain ⟨aS, pS, rfl, hsub⟩ := hc.cells
      have hblt : b < wr.heap.size := hGr b hGb
      have hbw : b < w.heap.size := hG b hGb
      have c0 : wr.cell? ⟨b, o + n * 8, none⟩ = some _ := hcell 0 (by simp)
      have c1 : wr.cell? ⟨b, o + n * 8 + 1, none⟩ = some _ := hcell 1 (by simp)
      have c2 : wr.cell? ⟨b, o + n * 8 + 2, none⟩ = some _ := hcell 2 (by simp)
      have c3 : wr.cell? ⟨b, o + n * 8 + 3, none⟩ = some _ := hcell 3 (by simp)
      have c4 : wr.cell? ⟨b, o + n * 8 + 4, none⟩ = some _ := hcell 4 (by simp)
      have c5 : wr.cell? ⟨b, o + n * 8 + 5, none⟩ = some _ := hcell 5 (by simp)
      have c6 : wr.cell? ⟨b, o + n * 8 + 6, none⟩ = some _ := hcell 6 (by simp)
      have c7 : wr.cell? ⟨b, o + n * 8 + 7, none⟩ = some _ := hcell 7 (by simp)
      simp only [List.getElem_cons_zero, List.getElem_cons_succ] at c0 c1 c2 c3 c4 c5 c6 c7
      clear hcell
      generalize hfn : fs[n] = f at *
      have HFN : Hid (fs[n] = f) := hfn
      have HS : Hid _ := hsucc
      have HLE : Hid _ := hle
      clear hfn hsucc hle
      have HAS := fun W (hW : Keep [] wr W) => has_any (hc.keepF (hGr.same hW) (fun _ h => h)) v
      by_cases h1 : f.tag < 0
      · cases hhas : f.has v
        · rw [hhas] at HAS
          have HH : Hid (f.has v = false) := hhas
          clear hhas
          go_wp2_with (go_at_call 74; refine (HAS _ (keep_box _)).mono ?_; rintro e wh ⟨rfl, hkh⟩)
          go_roundw
          case rel =>
            refine ⟨n + 1, by omega, by go_num, ?_, hkeep.trans ((keep_box _).trans hkh)⟩
            have e1 := HS.out
            rw [HH.out] at e1
            simp at e1
            rw [e1]
            exact hown.keep ((keep_box _).trans hkh)
          case measure => simp [intOf]; omega
        · rw [hhas] at HAS
          have HH : Hid (f.has v = true) := hhas
          clear hhas
          have hlen : (plainTo fs v false t n).length + (fieldP f v false (atT t n)).length ≤ 36000000000000 := by
            have e1 := HS.out
            rw [HH.out] at e1
            simp [h1] at e1
            have e2 := HLE.out
            have e3 := HB.out
            rw [e1, List.length_append] at e2
            omega
          have HLN : Hid _ := hlen
          clear hlen
          go_wp2_with (go_at_call 74; refine (HAS _ (keep_box _)).mono ?_; rintro e wh ⟨rfl, hkh⟩; clear c0 c1 c2 c3 c4 c5 c6 c7 r0 r1 r2 r3 r4)
          have kh : Keep [] wr wh := (keep_box _).trans hkh
          have hb1 := oneBox hkh
          have hb2 : wh.heap[w.heap.size]? = some (.cells (tcells t az ps al pl au pu) 26) := (kh.block _ (by omega) (by simp)).trans HBX.out
          have hS := FTS.of hb1 hb2
          have HB1 : Hid _ := hb1
          have HB2 : Hid _ := hb2
          clear hb1 hb2
          have hwh : wr.heap.size + 1 ≤ wh.heap.size := by have := hkh.size; simp at this; omega
          go_region_held3 (fun w' => w'.cell? ⟨wr.heap.size, 0, none⟩ = some (.int .i64 f.kind) ∧ w'.cell? ⟨wr.heap.size, 1, none⟩ = some (.int .i64 f.frm) ∧ w'.cell? ⟨wr.heap.size, 2, none⟩ = some (.int .i64 f.to) ∧ w'.cell? ⟨wr.heap.size, 3, none⟩ = some (.int .i64 f.nul) ∧ w'.cell? ⟨wr.heap.size, 4, none⟩ = some (.int .i64 f.tag) ∧ w'.cell? ⟨wr.heap.size, 5, none⟩ = some (.int .i64 f.dfl) ∧ w'.cell? ⟨wr.heap.size, 6, none⟩ = some (.int .i64 f.ofk) ∧ w'.cell? ⟨wr.heap.size, 7, none⟩ = some (.slice aS f.sub.length pS) ∧ w'.cell? ⟨w.heap.size, 0, none⟩ = some (.int .i64 t.n) ∧ w'.cell? ⟨w.heap.size, 1, none⟩ = some (.slice az t.s.length ps) ∧ w'.cell? ⟨w.heap.size, 2, none⟩ = some (.bool t.null) ∧ w'.cell? ⟨w.heap.size, 3, none⟩ = some (.slice al t.l.length pl) ∧ w'.cell? ⟨w.heap.size, 4, none⟩ = some (.slice au t.u.length pu)) (exact hS) (first
            | (go_at_call 36; refine (AT _ (hk.trans (kh.trans (Keep.refl _ _).drew)) n).mono ?_; rintro e wx ⟨c', rfl, hc', kx⟩; obtain ⟨az', ps', al', pl', au', pu', rfl, _⟩ := hc'.cells; have kX : Keep [] wh wx := (Keep.refl _ _).drew.trans kx; have hS := FTS.of ((kX.block _ (by omega) (by simp)).trans HB1.out) ((kX.block _ (by omega) (by simp)).trans HB2.out))
            | (go_at_call 75; refine (FS G _ _ _ _ (hc.keepF (hGr.same (kh.trans kX)) (fun _ h => h)) hc' (hGr.keep (kh.trans kX)) (by have := HLN.out; omega)).mono ?_; rintro e wy ⟨d, rfl, hd, ky⟩; have kY : Keep [] wh wy := kX.trans ky; have hS := FTS.of ((kY.block _ (by omega) (by simp)).trans HB1.out) ((kY.block _ (by omega) (by simp)).trans HB2.out))
            | (refine app_step (by rfl) (.tmp 36) (.tmp 43) (by rfl) (w.heap.size + 1) _ (plainTo fs v false t n) (by rfl) (hown.keep (kh.trans kY)) _ _ _ (by rfl) hd.rb (by have := HLN.out; omega) (Nat.le_trans hBr (kh.trans kY).size) ?_; intro v' w3 ho hg; have hk3 := (hkeep.trans (kh.trans kY)).grown hg (fun k e => .inr (by have := ((hown.keep (kh.trans kY)).lt k e).1; simp; omega)); have hsy := kY.size; have hS := FTS.of ((hg.block wr.heap.size (by omega) (fun e => by have := (hown.lt _ e.symm).2; omega)).trans ((kY.block _ (by omega) (by simp)).trans HB1.out)) ((hg.block w.heap.size (by omega) (fun e => by have := (hown.lt _ e.symm).1; omega)).trans ((kY.block _ (by omega) (by simp)).trans HB2.out))))
          go_wp2
          go_roundw
          case rel =>
            refine ⟨n + 1, by omega, by go_num, ?_, hk3⟩
            have e1 := HS.out
            rw [HH.out] at e1
            simp [h1] at e1
            rw [e1]
            exact ho
          case measure => simp [intOf]; omega
      · go_wp2_with fail
        go_roundw
        case rel =>
          refine ⟨n + 1, by omega, by go_num, ?_, hkeep.trans (keep_box _)⟩
          have e1 := HS.out
          simp [h1] at e1
          rw [e1]
          exact hown.keep (keep_box _)
        case measure => simp [intOf]; omega
    · go_wp2
      go_ret
      obtain rfl : n = fs.length := by omega
      refine ⟨_, rfl, ?_, hk⟩
      have e := plainTo_all fs v false t
      unfold partP partOf
      simp only [Bool.not_false, if_true]
      rw [← e]
      exact hown.lower (by omega)
end Go.Proofs.Ytidebamgmbdnaaa
/-
  spec.part at every message's fields where the version is not flexible; spec.Write, spec.Kept, spec.Same.
-/
namespace Go.Proofs.Ytidebamgmbdnaaa
open Go.ChangeShapes Go.WideShapes Go.ChangeAt Go.RowKit

mutual
theorem fieldSaid_plain (v : Int) : ∀ f, FieldSaid f v false
  | .mk k a b c d e o sub => field_any (f := .mk k a b c d e o sub) (part_plain (fs := sub) (fieldsSaid_plain v sub))
theorem fieldsSaid_plain (v : Int) : ∀ (fs : List F), ∀ f ∈ fs, FieldSaid f v false
  | [], _, h => absurd h (by simp)
  | g :: r, f, h => by
    rcases List.mem_cons.1 h with e | h'
    · rw [e]; exact fieldSaid_plain v g
    · exact fieldsSaid_plain v r f h'
end
theorem partSaid_plain (fs : List F) (v : Int) : PartSaid fs v false := part_plain (fieldsSaid_plain v fs)

/-- what a message lies as: its fields, its first flexible version -/
def HM (w : World) (G : Nat → Prop) (m : Msg) (c : List Value) : Prop := ∃ ao cap, c = [.slice ao m.fields.length cap, .int .i64 m.flex] ∧ HFs w G (.slice ao m.fields.length cap) m.fields
theorem HM.keepF {w w' : World} {F' G : Nat → Prop} {m : Msg} {c : List Value} (h : HM w F' m c) (hs : SameOn F' w w') (hg : ∀ k, F' k → G k) : HM w' G m c := by
  obtain ⟨ao, cap, e, h1⟩ := h
  exact ⟨ao, cap, e, h1.keepF hs hg⟩

abbrev mcells (m : Msg) (ao : Option Addr) (cap : Nat) : Array Value := #[.slice ao m.fields.length cap, .int .i64 m.flex]

set_option maxHeartbeats 400000 in
set_option maxRecDepth 100000 in
theorem write_any {G : Nat → Prop} {m : Msg} {v : Int} (hp : PartSaid m.fields v (m.flexible v)) {cm : List Value} {t : T} {ct : List Value} {w : World} (hm : HM w G m cm) (ht : HT w G t ct) (hG : There G w) (hb : (writeP m v t).length ≤ 36000000000000) :
    Calls Try.prog 16 #[.agg cm.toArray, .int .i64 v, .agg ct.toArray] w fun e w' => ∃ d, e = .returned d ∧ OB w' w.heap.size d (writeP m v t) ∧ Keep [] w w' := by
  obtain ⟨ao, cap, rfl, hF⟩ := hm
  have PP := fun W (hW : Keep [] w W) => hp.at hF ht hG hW hb
  obtain ⟨az, ps, al, pl, au, pu, rfl, hs, hl, hu, hn1, hn2, hn3, hn4⟩ := ht.cells
  clear hb hs hl hu ht hF hp
  unfold writeP
  unfold Msg.flexible at PP ⊢
  generalize m.flex = x at *
  by_cases h1 : 0 ≤ x
  · by_cases h2 : x ≤ v
    · have hd : (decide (0 ≤ x) && decide (x ≤ v)) = true := by simp [h1, h2]
      rw [hd] at PP ⊢
      clear hd
      go_enter Try.func16, Try.ntmps16
      go_wp2_with (go_at_call 39; refine (PP _ ((keep_box _).alloc _)).mono ?_; rintro e w' ⟨d, rfl, g1, g2⟩)
      go_ret
      exact ⟨_, rfl, g1.lower (by simp; omega), ((keep_box _).alloc _).trans g2⟩
    · have hd : (decide (0 ≤ x) && decide (x ≤ v)) = false := by simp [h2]
      rw [hd] at PP ⊢
      clear hd
      go_enter Try.func16, Try.ntmps16
      go_wp2_with (go_at_call 39; refine (PP _ ((keep_box _).alloc _)).mono ?_; rintro e w' ⟨d, rfl, g1, g2⟩)
      go_ret
      exact ⟨_, rfl, g1.lower (by simp; omega), ((keep_box _).alloc _).trans g2⟩
  · have hd : (decide (0 ≤ x) && decide (x ≤ v)) = false := by simp [h1]
    rw [hd] at PP ⊢
    clear hd
    go_enter Try.func16, Try.ntmps16
    go_wp2_with (go_at_call 39; refine (PP _ ((keep_box _).alloc _)).mono ?_; rintro e w' ⟨d, rfl, g1, g2⟩)
    go_ret
    exact ⟨_, rfl, g1.lower (by simp; omega), ((keep_box _).alloc _).trans g2⟩

theorem Keep.drewN {A : List Nat} {w w1 : World} (h : Keep A w w1) (n : Nat) : Keep A w (w1.drewN n) := ⟨h.os, h.tape, h.output, h.size, h.block⟩
theorem RB.nth {w : World} {G : Nat → Prop} {az : Option Addr} {n p : Nat} {l : Bs} (h : RB w G (.slice az n p) l) {i : Nat} (hi : i < l.length) :
    ∃ b o, az = some ⟨b, o, none⟩ ∧ w.cell? ⟨b, o + i, none⟩ = some (.int .u8 (l[i].toNat : Int)) := by
  obtain ⟨ao, cap, e, h1, h2, h3⟩ := h
  cases e
  cases az with
  | none => have := (h2 rfl).1; omega
  | some a =>
    obtain ⟨b, o, sp⟩ := a
    obtain ⟨g1, g2⟩ := h3 _ rfl
    replace g1 := g1 (by simp; omega)
    simp only at g1
    subst g1
    exact ⟨b, o, rfl, by rw [(g2 i (by simpa using hi)).2]; simp [bv]⟩
set_option maxHeartbeats 400000 in
set_option maxRecDepth 100000 in
theorem same_any {G G' : Nat → Prop} {va vb : Value} {a b : Bs} {w : World} (ha : RB w G va a) (hb : RB w G' vb b) (hla : a.length ≤ 36000000000000) (hlb : b.length ≤ 36000000000000) :
    Calls Try.prog 12 #[va, vb] w fun e w' => e = .returned (.bool (a == b)) ∧ Keep [] w w' := by
  obtain ⟨aa, ca, rfl⟩ := RS.shape ha
  obtain ⟨ab, cb, rfl⟩ := RS.shape hb
  by_cases hne : a.length = b.length
  · have hne' : ((a.length : Int) != (b.length : Int)) = false := by simp [hne]
    have HNE : Hid (a.length = b.length) := hne
    have hle1 : a.length ≤ b.length := by omega
    have hle2 : b.length ≤ a.length := by omega
    clear hne
    go_enter Try.func12, Try.ntmps12
    go_wp2
    go_loopw [13] (fun k wr => ∃ n : Nat, n ≤ a.length ∧ k = .int .i64 n ∧ Hid (a.take n = b.take n) ∧ ∃ q, wr = w.drewN q) (fun k _ => a.length - (intOf k).toNat)
    case atStart => exact ⟨0, Nat.zero_le _, rfl, by simp [Hid], 0, rfl⟩
    case round =>
      obtain ⟨n, hn, rfl, hpre, q, rfl⟩ := hrel
      by_cases hlt : n < a.length
      · have hltb : n < b.length := by omega
        obtain ⟨ba, oa, rfl, hca⟩ := ha.nth hlt
        obtain ⟨bb, ob, rfl, hcb⟩ := hb.nth hltb
        by_cases hx : a[n] = b[n]
        · have hd : ((a[n].toNat : Int) != (b[n].toNat : Int)) = false := by simp [hx]
          have HX : Hid (a[n] = b[n]) := hx
          clear hx
          go_wp2
          go_quiet (fail)
          go_wp2
          refine ⟨⟨n + 1, by omega, by go_num, ?_, _, rfl⟩, by simp [intOf]; omega⟩
          show _ = _
          rw [List.take_succ_eq_append_getElem hlt, List.take_succ_eq_append_getElem hltb, hpre.out, HX.out]
        · have hd : ((a[n].toNat : Int) != (b[n].toNat : Int)) = true := by
            rw [bne_iff_ne]
            intro h
            exact hx (UInt8.toNat_inj.1 (by omega))
          have HX : Hid (¬ a[n] = b[n]) := hx
          clear hx
          go_wp2
          go_quiet (fail)
          go_wp2
          go_ret
          refine ⟨?_, ((Keep.refl _ _).drewN _).drewN _⟩
          have hf : (a == b) = false := by
            rw [beq_eq_false_iff_ne]
            intro h
            subst h
            exact HX.out rfl
          rw [hf]
          rfl
      · go_wp2
        go_ret
        refine ⟨?_, (Keep.refl _ _).drewN _⟩
        have hp := hpre.out
        rw [List.take_of_length_le (by omega), List.take_of_length_le (by omega)] at hp
        rw [hp]
        simp
  · have hne' : ((a.length : Int) != (b.length : Int)) = true := by simp; omega
    have hf : (a == b) = false := by
      rw [beq_eq_false_iff_ne]
      intro h
      exact hne (by rw [h])
    rw [hf]
    clear hne hf
    go_enter Try.func12, Try.ntmps12
    go_wp2
    go_ret
    exact ⟨rfl, Keep.refl _ _⟩

abbrev MTS (m : Msg) (ao : Option Addr) (cap : Nat) (t : T) (az : Option Addr) (ps : Nat) (al : Option Addr) (pl : Nat) (au : Option Addr) (pu : Nat) (b1 b2 : Nat) (w' : World) : Prop := w'.cell? ⟨b1, 0, none⟩ = some (.slice ao m.fields.length cap) ∧ w'.cell? ⟨b1, 1, none⟩ = some (.int .i64 m.flex) ∧ w'.cell? ⟨b2, 0, none⟩ = some (.int .i64 t.n) ∧ w'.cell? ⟨b2, 1, none⟩ = some (.slice az t.s.length ps) ∧ w'.cell? ⟨b2, 2, none⟩ = some (.bool t.null) ∧ w'.cell? ⟨b2, 3, none⟩ = some (.slice al t.l.length pl) ∧ w'.cell? ⟨b2, 4, none⟩ = some (.slice au t.u.length pu)
theorem MTS.of {m : Msg} {ao : Option Addr} {cap : Nat} {t : T} {az : Option Addr} {ps : Nat} {al : Option Addr} {pl : Nat} {au : Option Addr} {pu b1 b2 : Nat} {w : World} {T1 T2 : TypeId} {z1 z2 : Nat × Nat}
    (h1 : w.heap[b1]? = some (.cells (mcells m ao cap) T1 z1)) (h2 : w.heap[b2]? = some (.cells (tcells t az ps al pl au pu) T2 z2)) : MTS m ao cap t az ps al pl au pu b1 b2 w := by
  obtain ⟨r0, r1, r2, r3, r4⟩ := tbox h2
  exact ⟨cellOf h1 0 _ rfl, cellOf h1 1 _ rfl, r0, r1, r2, r3, r4⟩
set_option maxHeartbeats 400000 in
set_option maxRecDepth 100000 in
theorem kept_any {G : Nat → Prop} {m : Msg} {v : Int} (hp : PartSaid m.fields v (m.flexible v)) {cm : List Value} {t : T} {ct : List Value} {w : World} (hm : HM w G m cm) (ht : HT w G t ct) (hG : There G w) (hb : (writeP m v t).length ≤ 1099511627775) :
    Calls Try.prog 28 #[.agg cm.toArray, .int .i64 v, .agg ct.toArray] w fun e w' => ∃ d, e = .returned d ∧ OB w' w.heap.size d (keptP m v t) ∧ Keep [] w w' := by
  have WW := fun W (hW : Keep [] w W) => write_any hp (hm.keepF (hG.same hW) (fun _ h => h)) (ht.keepF (hG.same hW) (fun _ h => h)) (hG.keep hW) (by omega)
  obtain ⟨ao, cap, rfl, hF⟩ := hm
  obtain ⟨az, ps, al, pl, au, pu, rfl, hs, hl, hu, hn1, hn2, hn3, hn4⟩ := ht.cells
  have e0 : ((2 : Nat) : Int) = 2 := rfl
  have F2 := fun W => fixed_any v 2 (by decide) W
  rw [e0] at F2
  have K1 : Keep [] w ((w.alloc (.cells (mcells m ao cap) 31)).alloc (.cells (tcells t az ps al pl au pu) 26)) := (keep_box _).alloc _
  have hb1 := (twoBoxes (Keep.refl [] ((w.alloc (.cells (mcells m ao cap) 31)).alloc (.cells (tcells t az ps al pl au pu) 26)))).1
  have hb2 := (twoBoxes (Keep.refl [] ((w.alloc (.cells (mcells m ao cap) 31)).alloc (.cells (tcells t az ps al pl au pu) 26)))).2
  have HB1 : Hid _ := hb1
  have HB2 : Hid _ := hb2
  have hS := MTS.of hb1 hb2
  have HB : Hid _ := hb
  clear hb hs hl hu ht hF hp e0 hb1 hb2
  have hw1 : w.heap.size + 2 ≤ ((w.alloc (.cells (mcells m ao cap) 31)).alloc (.cells (tcells t az ps al pl au pu) 26)).heap.size := by simp
  go_enter Try.func28, Try.ntmps28
  go_wp2_with fail
  go_region_held3 (fun w' => w'.cell? ⟨w.heap.size, 0, none⟩ = some (.slice ao m.fields.length cap) ∧ w'.cell? ⟨w.heap.size, 1, none⟩ = some (.int .i64 m.flex) ∧ w'.cell? ⟨w.heap.size + 1, 0, none⟩ = some (.int .i64 t.n) ∧ w'.cell? ⟨w.heap.size + 1, 1, none⟩ = some (.slice az t.s.length ps) ∧ w'.cell? ⟨w.heap.size + 1, 2, none⟩ = some (.bool t.null) ∧ w'.cell? ⟨w.heap.size + 1, 3, none⟩ = some (.slice al t.l.length pl) ∧ w'.cell? ⟨w.heap.size + 1, 4, none⟩ = some (.slice au t.u.length pu)) (exact hS) (first
    | (go_at_call 60; refine (F2 _).mono ?_; rintro e wa ⟨da, rfl, ha0, ka⟩; have ha := ha0.lower (B' := w.heap.size + 2) (by first | exact hw1 | exact Nat.le_trans hw1 kB.size); have kA : Keep [] ((w.alloc (.cells (mcells m ao cap) 31)).alloc (.cells (tcells t az ps al pl au pu) 26)) wa := (by first | exact (Keep.refl _ _).drew.trans ka | exact kB.trans ka); have hS := MTS.of ((kA.block _ (by omega) (by simp)).trans HB1.out) ((kA.block _ (by omega) (by simp)).trans HB2.out))
    | (go_at_call 16; refine (WW _ (by first | exact K1.trans (Keep.refl _ _).drew | exact K1.trans kA)).mono ?_; rintro e wb ⟨db, rfl, hb0, kb⟩; have hb := hb0.lower (B' := w.heap.size + 2) (by first | exact hw1 | exact Nat.le_trans hw1 kA.size); have kB : Keep [] ((w.alloc (.cells (mcells m ao cap) 31)).alloc (.cells (tcells t az ps al pl au pu) 26)) wb := (by first | exact (Keep.refl _ _).drew.trans kb | exact kA.trans kb); have hS := MTS.of ((kB.block _ (by omega) (by simp)).trans HB1.out) ((kB.block _ (by omega) (by simp)).trans HB2.out))
    | (refine app_step (by rfl) (.tmp 8) (.tmp 12) (by rfl) (w.heap.size + 2) _ (fixedP v 2) (by rfl) (ha.keep kb) _ _ _ (by rfl) hb.rb (by have := HB.out; rw [fixedP_len]; omega) (Nat.le_trans hw1 kB.size) ?_; intro v' w3 ho hg; have hout := (K1.trans kB).grown hg (fun k e => .inr (by have := ((ha.keep kb).lt k e).1; omega)); have hsz := kB.size; have hS := MTS.of ((hg.block w.heap.size (by omega) (fun e => by have := ((ha.keep kb).lt _ e.symm).1; omega)).trans ((kB.block _ (by omega) (by simp)).trans HB1.out)) ((hg.block (w.heap.size + 1) (by omega) (fun e => by have := ((ha.keep kb).lt _ e.symm).1; omega)).trans ((kB.block _ (by omega) (by simp)).trans HB2.out)))
    | (refine app_step (by rfl) (.tmp 8) (.tmp 12) (by rfl) (w.heap.size + 2) _ (fixedP v 2) (by rfl) ha _ _ _ (by rfl) (hb.keep ka).rb (by have := HB.out; rw [fixedP_len]; omega) (Nat.le_trans hw1 kA.size) ?_; intro v' w3 ho hg; have hout := (K1.trans kA).grown hg (fun k e => .inr (by have := (ha.lt k e).1; omega)); have hsz := kA.size; have hS := MTS.of ((hg.block w.heap.size (by omega) (fun e => by have := (ha.lt _ e.symm).1; omega)).trans ((kA.block _ (by omega) (by simp)).trans HB1.out)) ((hg.block (w.heap.size + 1) (by omega) (fun e => by have := (ha.lt _ e.symm).1; omega)).trans ((kA.block _ (by omega) (by simp)).trans HB2.out))))
  all_goals
    go_wp2
    go_ret
    exact ⟨_, rfl, ho.lower (by omega), hout⟩
end Go.Proofs.Ytidebamgmbdnaaa
/-
  spec.SameTree at two trees that say the same.
-/
namespace Go.Proofs.Ytidebamgmbdnaaa
open Go.ChangeShapes Go.WideShapes Go.ChangeAt Go.RowKit

theorem Keep.cs {w w' : World} (h : Keep [] w w') {p : Addr} {v : Value} (hc : w.cell? p = some v) : w'.cell? p = some v :=
  (h.cell (World.block_lt_of_cell? w p hc) (by simp)).trans hc
theorem HTs.cells {w : World} {G : Nat → Prop} {az : Option Addr} {n p : Nat} {l : List T} (h : HTs w G (.slice az n p) l) {i : Nat} (hi : i < l.length) :
    ∃ b o c, az = some ⟨b, o, none⟩ ∧ G b ∧ HT w G l[i] c ∧ ∀ j (hj : j < c.length), w.cell? ⟨b, o + i * 5 + j, none⟩ = some c[j] := by
  obtain ⟨b, o, cap, c, e, h1, h2, h3, h4⟩ := h.elem hi
  cases e
  exact ⟨b, o, c, rfl, h2, h3, h4⟩
/-- tags, one by one -/
theorem HGs.elem {w : World} {G : Nat → Prop} {az : Option Addr} {n p : Nat} {u : List Tg} (h : HGs w G (.slice az n p) u) {i : Nat} (hi : i < u.length) :
    ∃ b o av pv, az = some ⟨b, o, none⟩ ∧ G b ∧ w.cell? ⟨b, o + i * 2, none⟩ = some (.int .u32 (u[i].1 : Int)) ∧ w.cell? ⟨b, o + i * 2 + 1, none⟩ = some (.slice av u[i].2.length pv) ∧ RB w G (.slice av u[i].2.length pv) u[i].2 ∧ u[i].2.length ≤ 9223372036854775807 := by
  obtain ⟨vs, h1, h2, h3, h5, h4⟩ := h
  have hm : ∀ c ∈ ((u.zip vs).map fun x => [Value.int .u32 (x.1.1 : Int), x.2]), c.length = 2 := fun c hc => by
    obtain ⟨x, _, rfl⟩ := List.mem_map.1 hc
    rfl
  have hl : ((u.zip vs).map fun x => [Value.int .u32 (x.1.1 : Int), x.2]).length = u.length := by simp [h1]
  rw [← hl] at h4
  obtain ⟨b, o, cap, e, hc, hG, hcell⟩ := h4.elem hm (i := i) (by omega) (by omega)
  cases e
  have hv := h2 i hi (by omega)
  obtain ⟨av, pv, ev⟩ := RS.shape hv
  have c0 := hcell 0 (by simp)
  have c1 := hcell 1 (by simp)
  simp at c0 c1
  refine ⟨b, o, av, pv, rfl, hG, c0, ?_, ?_, (h3 _ (List.getElem_mem hi)).2⟩
  · rw [c1, ← ev]
  · rw [← ev]; exact hv

end Go.Proofs.Ytidebamgmbdnaaa
/-
  LISTS OF TREES AND OF TAGS THAT THE CALL ITSELF HOLDS: what append does to them.
-/
namespace Go.Proofs.Ytidebamgmbdnaaa
open Go.RowKit

theorem sameOn_of {A : List Nat} {G : Nat → Prop} {w w' : World} (h : Keep A w w') (hG : There G w) (hA : ∀ k, G k → k ∉ A) : SameOn G w w' := fun k hk => h.block k (hG k hk) (hA k hk)

/-- the blocks G, but for the one that v begins in -/
def Off (G : Nat → Prop) (v : Value) (k : Nat) : Prop := G k ∧ some k ≠ v.ownBlock

/-- a list of trees of the call's own -/
def OT (w : World) (B E : Nat) (G : Nat → Prop) (v : Value) (l : List T) : Prop :=
  ∃ cs : List (List Value), cs.length = l.length ∧ (∀ i (h1 : i < l.length) (h2 : i < cs.length), HT w (Off G v) l[i] cs[i]) ∧ l.length ≤ 1099511627776 ∧ w.ownsRow B E 5 v l.length cs.flatten
theorem OT.nil (w : World) (B E : Nat) (G : Nat → Prop) : OT w B E G (.slice none 0 0) [] := ⟨[], rfl, (fun i h => by simp at h), by simp, World.ownsRow_nil _ _ _ _⟩
theorem OT.row {w : World} {B E : Nat} {G : Nat → Prop} {v : Value} {l : List T} (h : OT w B E G v l) : ∃ xs, w.ownsRow B E 5 v l.length xs := let ⟨cs, _, _, _, h4⟩ := h; ⟨cs.flatten, h4⟩
/-- other blocks turn, the list stays -/
theorem OT.keepF {w w' : World} {B E : Nat} {G G' : Nat → Prop} {v : Value} {l : List T} (h : OT w B E G v l) (hs : SameOn G w w') (hg : ∀ k, G k → G' k) (ho : ∀ k, v.ownBlock = some k → w'.heap[k]? = w.heap[k]?) : OT w' B E G' v l := by
  obtain ⟨cs, h1, h2, h3, h4, h5⟩ := h
  refine ⟨cs, h1, fun i a b => (h2 i a b).keepF (fun k hk => hs k hk.1) (fun k hk => ⟨hg k hk.1, hk.2⟩), h3, h4, ?_⟩
  rcases h5 with h5 | ⟨g, cap, cur, e, hb, hg', r⟩
  · exact .inl h5
  · exact .inr ⟨g, cap, cur, e, hb, by rw [ho g (by rw [e]; rfl)]; exact hg', r⟩
/-- a row of the call's own as a slice that reads -/
theorem ownsRow_rs {w : World} {B E size : Nat} {v : Value} {n : Nat} {xs : List Value} (h : w.ownsRow B E size v n xs) : RS w (fun k => B ≤ k ∧ k < w.heap.size) v n xs := by
  obtain ⟨h1, ⟨rfl, h2⟩ | ⟨g, cap, cur, rfl, hb, hg, hn, hm, hz, ht⟩⟩ := h
  · subst h2
    have hx : xs = [] := List.eq_nil_of_length_eq_zero (by simpa using h1)
    exact ⟨none, 0, rfl, by omega, fun _ => ⟨rfl, rfl, hx⟩, (fun a ha => by cases ha)⟩
  · have hlt : g < w.heap.size := (Array.getElem?_eq_some_iff.1 hg).1
    refine ⟨_, cap, rfl, hn, (fun h => by cases h), fun a ha => ?_⟩
    cases ha
    refine ⟨fun _ => rfl, fun i hi => ⟨⟨hb, hlt⟩, ?_⟩⟩
    have e : xs[i]? = some xs[i] := List.getElem?_eq_getElem hi
    rw [← e, ← ht, List.getElem?_take, if_pos (by omega)]
    simp [World.cell?, hg]
theorem OT.hts {w : World} {B E : Nat} {G G' : Nat → Prop} {v : Value} {l : List T} (h : OT w B E G v l) (hg : ∀ k, G k → G' k) (hB : ∀ k, B ≤ k → k < w.heap.size → G' k) : HTs w G' v l := by
  obtain ⟨cs, h1, h2, h3, h4⟩ := h
  refine ⟨cs, h1, fun i a b => (h2 i a b).keepF (fun _ _ => rfl) (fun k hk => hg k hk.1), Nat.le_trans h3 (by decide), ?_⟩
  rw [h1]
  exact (ownsRow_rs h4).mono fun k hk => hB k hk.1 hk.2
/-- one tree more -/
theorem OT.push {w w' : World} {B E : Nat} {G : Nat → Prop} {v : Value} {l : List T} {x : T} {c : List Value} {g cap : Nat} {cs : List (List Value)} (h1 : cs.length = l.length) (h2 : ∀ i (a : i < l.length) (b : i < cs.length), HT w (Off G v) l[i] cs[i])
    (hx : HT w (Off G v) x c) (hGw : There G w) (hl : l.length + 1 ≤ 1099511627776)
    (hrow : w'.ownsRow B E 5 (.slice (some ⟨g, 0, none⟩) (l.length + 1) cap) (l.length + 1) (cs.flatten ++ c)) (hgr : w.grownBy w' v.ownBlock) (hat : v.ownBlock = some g ∨ w.heap.size ≤ g) :
    OT w' B E G (.slice (some ⟨g, 0, none⟩) (l.length + 1) cap) (l ++ [x]) := by
  have hs : SameOn (Off G v) w w' := fun k hk => hgr.block k (hGw k hk.1) hk.2
  have hw : ∀ k, Off G v k → Off G (.slice (some ⟨g, 0, none⟩) (l.length + 1) cap) k := fun k hk => ⟨hk.1, fun e => by
    have e' : k = g := by simpa [Value.ownBlock] using e
    subst e'
    rcases hat with h | h
    · exact hk.2 h.symm
    · have := hGw k hk.1; omega⟩
  refine ⟨cs ++ [c], by simp [h1], fun i a b => ?_, by simpa using hl, ?_⟩
  · rcases Nat.lt_or_ge i l.length with hi | hi
    · rw [List.getElem_append_left hi, List.getElem_append_left (by omega)]
      exact (h2 i hi (by omega)).keepF hs hw
    · have hi' : i = l.length := by simp at a; omega
      subst hi'
      rw [List.getElem_append_right (by omega), List.getElem_append_right (by omega)]
      simp only [h1, Nat.sub_self, List.getElem_singleton]
      exact hx.keepF hs hw
  · simpa using hrow

/-- a list of tags of the call's own -/
def OG (w : World) (B E : Nat) (G : Nat → Prop) (v : Value) (l : List Tg) : Prop :=
  ∃ vs : List Value, vs.length = l.length ∧ (∀ i (h1 : i < l.length) (h2 : i < vs.length), RB w (Off G v) vs[i] l[i].2) ∧ (∀ x ∈ l, x.1 < 4294967296 ∧ x.2.length ≤ 9223372036854775807) ∧ l.length ≤ 1099511627776 ∧
    w.ownsRow B E 2 v l.length ((l.zip vs).map fun x => [Value.int .u32 (x.1.1 : Int), x.2]).flatten
theorem OG.nil (w : World) (B E : Nat) (G : Nat → Prop) : OG w B E G (.slice none 0 0) [] := ⟨[], rfl, (fun i h => by simp at h), (fun x h => by cases h), by simp, World.ownsRow_nil _ _ _ _⟩
theorem OG.keepF {w w' : World} {B E : Nat} {G G' : Nat → Prop} {v : Value} {l : List Tg} (h : OG w B E G v l) (hs : SameOn G w w') (hg : ∀ k, G k → G' k) (ho : ∀ k, v.ownBlock = some k → w'.heap[k]? = w.heap[k]?) : OG w' B E G' v l := by
  obtain ⟨cs, h1, h2, h3, h6, h4, h5⟩ := h
  refine ⟨cs, h1, fun i a b => (h2 i a b).keepF (fun k hk => hs k hk.1) (fun k hk => ⟨hg k hk.1, hk.2⟩), h3, h6, h4, ?_⟩
  rcases h5 with h5 | ⟨g, cap, cur, e, hb, hg', r⟩
  · exact .inl h5
  · exact .inr ⟨g, cap, cur, e, hb, by rw [ho g (by rw [e]; rfl)]; exact hg', r⟩
theorem OG.hgs {w : World} {B E : Nat} {G G' : Nat → Prop} {v : Value} {l : List Tg} (h : OG w B E G v l) (hg : ∀ k, G k → G' k) (hB : ∀ k, B ≤ k → k < w.heap.size → G' k) : HGs w G' v l := by
  obtain ⟨cs, h1, h2, h3, h6, h4⟩ := h
  exact ⟨cs, h1, fun i a b => (h2 i a b).keepF (fun _ _ => rfl) (fun k hk => hg k hk.1), h3, Nat.le_trans h6 (by decide), (ownsRow_rs h4).mono fun k hk => hB k hk.1 hk.2⟩
theorem OG.push {w w' : World} {B E : Nat} {G : Nat → Prop} {v : Value} {l : List Tg} {x : Tg} {vx : Value} {g cap : Nat} {cs : List Value} (h1 : cs.length = l.length) (h2 : ∀ i (a : i < l.length) (b : i < cs.length), RB w (Off G v) cs[i] l[i].2)
    (h3 : ∀ x ∈ l, x.1 < 4294967296 ∧ x.2.length ≤ 9223372036854775807) (hx : RB w (Off G v) vx x.2) (hx1 : x.1 < 4294967296 ∧ x.2.length ≤ 9223372036854775807) (hGw : There G w) (hl : l.length + 1 ≤ 1099511627776)
    (hrow : w'.ownsRow B E 2 (.slice (some ⟨g, 0, none⟩) (l.length + 1) cap) (l.length + 1) (((l.zip cs).map fun x => [Value.int .u32 (x.1.1 : Int), x.2]).flatten ++ [.int .u32 (x.1 : Int), vx])) (hgr : w.grownBy w' v.ownBlock) (hat : v.ownBlock = some g ∨ w.heap.size ≤ g) :
    OG w' B E G (.slice (some ⟨g, 0, none⟩) (l.length + 1) cap) (l ++ [x]) := by
  have hs : SameOn (Off G v) w w' := fun k hk => hgr.block k (hGw k hk.1) hk.2
  have hw : ∀ k, Off G v k → Off G (.slice (some ⟨g, 0, none⟩) (l.length + 1) cap) k := fun k hk => ⟨hk.1, fun e => by
    have e' : k = g := by simpa [Value.ownBlock] using e
    subst e'
    rcases hat with h | h
    · exact hk.2 h.symm
    · have := hGw k hk.1; omega⟩
  refine ⟨cs ++ [vx], by simp [h1], fun i a b => ?_, fun y hy => ?_, by simpa using hl, ?_⟩
  · rcases Nat.lt_or_ge i l.length with hi | hi
    · rw [List.getElem_append_left (by omega)]
      have e : (l ++ [x])[i] = l[i] := List.getElem_append_left hi
      rw [e]
      exact (h2 i hi (by omega)).keepF hs hw
    · have hi' : i = l.length := by simp at a; omega
      subst hi'
      rw [List.getElem_append_right (by omega)]
      have e : (l ++ [x])[l.length] = x := by simp
      rw [e]
      simp only [h1, Nat.sub_self, List.getElem_singleton]
      exact hx.keepF hs hw
  · rcases List.mem_append.1 hy with hy | hy
    · exact h3 y hy
    · have := List.mem_singleton.1 hy
      subst this
      exact hx1
  · rw [List.length_append, List.zip_append (by omega)]
    simpa using hrow

/-- a call of a Go function, as a step of a region that draws its order -/
theorem step_call {P : Program} {w : World} {ops : Array Oper} {o : Oper} {a : Act} {Q : Exit → Act → World → Prop} {K : Act → World → Prop} {E : Prop} {R : Ending → World → Prop} (hgd : o.guard = none) (k : Nat) (ps : Array Operand) (ts : Array TypeId)
    (ho : o.op = .call { callee := .value (.func k), args := ps, argTypes := ts }) (args : Array Value) (hargs : ps.map a.eval = args) (fn : Func) (hf : P.funcs[k]? = some fn) (hb : fn.body.isNone = false) (hn : (fn.name == "runtime.NumGoroutine") = false)
    (hcall : Calls P k args w R) (h : ∀ e w', R e w' → ∃ v, e = .returned v ∧ K (a.put o.dst v) w') : if Region.wanted o (yielded ops a.tmps) = true then Oper.wp P o a w K Q else E := by
  have hw : Region.wanted o (yielded ops a.tmps) = true := by simp [Region.wanted, hgd]
  rw [if_pos hw]
  have hrun : (execOp a.eval o).run P w = .ok (.enter k args) w := by
    have e1 : a.eval (.func k) = .func (.func k) #[] #[] := rfl
    have hn' : ¬ fn.name = "runtime.NumGoroutine" := by simpa using hn
    have hb' : ¬ fn.body = none := by intro h; rw [h] at hb; cases hb
    simp [execOp, ho, resolve, Deferred.ofValue, invoke, callFunc, e1, hargs, program, Sem.run, hf, hb', hn', bind, pure, Sem.bind]
  unfold Oper.wp
  rw [hrun]
  simp only [Oper.upon]
  exact Calls.mono hcall fun e w' hR => by
    obtain ⟨v, rfl, hK⟩ := h e w' hR
    exact hK
/-- a store into one of a block's cells -/
theorem heap_set {w : World} {b i : Nat} {c : Array Value} {t : TypeId} {z : Nat × Nat} (h : w.heap[b]? = some (.cells c t z)) (u : Value) : (w.setCell ⟨b, i, none⟩ u).heap[b]? = some (.cells (c.setIfInBounds i u) t z) := by
  simp [World.setCell, Array.getElem?_modify, h]
theorem freeOf {w : World} {b : Nat} {c : Array Value} {t : TypeId} (h : w.heap[b]? = some (.cells c t (0, 0))) (i : Nat) : w.frozen? ⟨b, i, none⟩ = false := by
  simp [World.frozen?, h]
end Go.Proofs.Ytidebamgmbdnaaa
/-
  Inserting by rising numbers, in plain Lean; a row of tags of the call's own.
-/
namespace Go.Proofs.Ytidebamgmbdnaaa
open Go.RowKit

section
variable {α β : Type}
def spotG (out : List (Nat × α)) (k : Nat) : Nat := (out.takeWhile fun x => x.1 < k).length
def insG (out : List (Nat × α)) (t : Nat × α) : List (Nat × α) := if out[spotG out t.1]?.any (·.1 == t.1) then out else out.take (spotG out t.1) ++ t :: out.drop (spotG out t.1)
theorem spotG_map (f : Nat × α → Tg) (hf : ∀ x, (f x).1 = x.1) (out : List (Nat × α)) (k : Nat) : spot (out.map f) k = spotG out k := by
  unfold spot spotG
  rw [List.takeWhile_map, List.length_map]
  congr 1
  congr 1
  funext x
  simp [hf]
theorem insG_map (f : Nat × α → Tg) (hf : ∀ x, (f x).1 = x.1) (out : List (Nat × α)) (t : Nat × α) : (insG out t).map f = ins (out.map f) (f t) := by
  unfold insG ins
  rw [hf, spotG_map f hf]
  have e : ((out.map f)[spotG out t.1]?.any fun x => x.1 == t.1) = (out[spotG out t.1]?.any fun x => x.1 == t.1) := by
    rw [List.getElem?_map]
    cases out[spotG out t.1]? with
    | none => rfl
    | some x => simp [hf]
  rw [e]
  split
  · rfl
  · simp
theorem spotG_le (out : List (Nat × α)) (k : Nat) : spotG out k ≤ out.length := (List.takeWhile_prefix _).length_le
theorem spotG_lt : ∀ (out : List (Nat × α)) (k j : Nat) (_ : j < spotG out k) (h : j < out.length), out[j].1 < k
  | [], _, _, _, h => by simp at h
  | x :: r, k, j, hj, h => by
    unfold spotG at hj
    rw [List.takeWhile_cons] at hj
    split at hj
    · rename_i hx
      cases j with
      | zero => simpa using hx
      | succ j => exact spotG_lt r k j (by simpa [spotG] using hj) (by simpa using h)
    · simp at hj
theorem spotG_ge : ∀ (out : List (Nat × α)) (k : Nat) (h : spotG out k < out.length), ¬ out[spotG out k].1 < k
  | [], _, h => by simp at h
  | x :: r, k, h => by
    by_cases hx : x.1 < k
    · have e : spotG (x :: r) k = spotG r k + 1 := by simp [spotG, hx]
      have h2 := spotG_ge r k (by simp [e] at h; exact h)
      simp only [e, List.getElem_cons_succ]
      exact h2
    · have e : spotG (x :: r) k = 0 := by simp [spotG, hx]
      simp only [e, List.getElem_cons_zero]
      exact hx
end
/-- the cells of tags -/
def cellsL (L : List (Nat × (Value × Bs))) : List Value := L.flatMap fun x => [.int .u32 (x.1 : Int), x.2.1]
theorem cellsL_len (L : List (Nat × (Value × Bs))) : (cellsL L).length = L.length * 2 := by
  induction L with
  | nil => rfl
  | cons x r ih => simp [cellsL] at ih ⊢; omega
theorem cellsL_app (A B : List (Nat × (Value × Bs))) : cellsL (A ++ B) = cellsL A ++ cellsL B := by simp [cellsL]
theorem cellsL_mid (A B : List (Nat × (Value × Bs))) (y : Nat × (Value × Bs)) (j : Nat) (hj : j = A.length) : (cellsL (A ++ y :: B))[j * 2]? = some (.int .u32 (y.1 : Int)) ∧ (cellsL (A ++ y :: B))[j * 2 + 1]? = some y.2.1 := by
  have hl := cellsL_len A
  subst hj
  rw [cellsL_app]
  constructor
  · rw [List.getElem?_append_right (by omega), hl]
    simp [cellsL]
  · rw [List.getElem?_append_right (by omega), hl]
    simp [cellsL]
theorem cellsL_get (L : List (Nat × (Value × Bs))) (j : Nat) (h : j < L.length) : (cellsL L)[j * 2]? = some (.int .u32 (L[j].1 : Int)) ∧ (cellsL L)[j * 2 + 1]? = some L[j].2.1 := by
  have e : L.take j ++ L[j] :: L.drop (j + 1) = L := by rw [← List.drop_eq_getElem_cons h, List.take_append_drop]
  have q := cellsL_mid (L.take j) (L.drop (j + 1)) L[j] j (by simp; omega)
  rw [e] at q
  exact q
/-- what a slice of the call's own reads at a cell -/
theorem own_at {w : World} {B E g m cap : Nat} {xs : List Value} (h : w.ownsRow B E 2 (.slice (some ⟨g, 0, none⟩) m cap) m xs) {i : Nat} {v : Value} (hv : xs[i]? = some v) : w.cell? ⟨g, i, none⟩ = some v ∧ w.frozen? ⟨g, i, none⟩ = false ∧ g < w.heap.size := by
  obtain ⟨h0, ⟨e, _⟩ | ⟨g', cap', cur, e, hb, hg, hn, hm, hz, ht⟩⟩ := h
  · cases e
  · cases e
    have hi := (List.getElem?_eq_some_iff.1 hv).1
    refine ⟨cellOf hg i _ ?_, freeOf hg i, (Array.getElem?_eq_some_iff.1 hg).1⟩
    rw [← Array.getElem?_toList, ← hv, ← ht, List.getElem?_take, if_pos (by omega)]
/-- a store of a tag -/
theorem own_put {w : World} {B E g m cap j : Nat} {xs : List Value} (h : w.ownsRow B E 2 (.slice (some ⟨g, 0, none⟩) m cap) m xs) (a b : Value) :
    ((w.setCell ⟨g, j * 2, none⟩ a).setCell ⟨g, j * 2 + 1, none⟩ b).ownsRow B E 2 (.slice (some ⟨g, 0, none⟩) m cap) m ((xs.set (j * 2) a).set (j * 2 + 1) b) := by
  obtain ⟨h0, ⟨e, _⟩ | ⟨g', cap', cur, e, hb, hg, hn, hm, hz, ht⟩⟩ := h
  · cases e
  · cases e
    refine ⟨by simp [h0], .inr ⟨g, cap, _, rfl, hb, heap_set (heap_set hg a) b, hn, hm, by simpa using hz, ?_⟩⟩
    simp only [Array.toList_setIfInBounds, List.take_set, ht]
theorem cellsL_put (A B : List (Nat × (Value × Bs))) (y x : Nat × (Value × Bs)) (j : Nat) (hj : j = A.length) : ((cellsL (A ++ y :: B)).set (j * 2) (.int .u32 (x.1 : Int))).set (j * 2 + 1) x.2.1 = cellsL (A ++ x :: B) := by
  have hl := cellsL_len A
  subst hj
  rw [cellsL_app, cellsL_app, List.set_append_right _ _ (by omega), List.set_append_right _ _ (by omega), hl]
  simp [cellsL]
theorem shift_put {L : List (Nat × (Value × Bs))} {k : Nat} (hk : 0 < k) (hkl : k ≤ L.length) (y : Nat × (Value × Bs)) :
    ((cellsL (L.take k ++ y :: L.drop k)).set (k * 2) (.int .u32 ((L[k - 1]'(by omega)).1 : Int))).set (k * 2 + 1) (L[k - 1]'(by omega)).2.1 = cellsL (L.take (k - 1) ++ (L[k - 1]'(by omega)) :: L.drop (k - 1)) := by
  rw [cellsL_put _ _ _ _ k (by simp; omega)]
  have e1 : L.take k = L.take (k - 1) ++ [L[k - 1]'(by omega)] := by
    have := List.take_succ_eq_append_getElem (l := L) (i := k - 1) (by omega)
    rwa [show k - 1 + 1 = k by omega] at this
  have e2 : L.drop (k - 1) = (L[k - 1]'(by omega)) :: L.drop k := by
    have := List.drop_eq_getElem_cons (l := L) (i := k - 1) (by omega)
    rwa [show k - 1 + 1 = k by omega] at this
  generalize L[k - 1]'(by omega) = z at *
  rw [e2, e1]
  simp
end Go.Proofs.Ytidebamgmbdnaaa
