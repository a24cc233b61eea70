/-
  spec.field: what is written of a field. The part's contract is handed over.
-/
import Derived.Test.YtnemimighhpcaaaDoorSpecD
namespace Go.Proofs.YtnemimighhpcaaaDoor
open Go.ChangeShapes Go.WideShapes Go.ChangeAt Go.RowKit

/-- what spec.field promises of this field -/
def FieldSaid (f : F) (v : Int) (flex : Bool) : Prop :=
  ∀ (G : Nat → Prop) (c : List Value) (t : T) (ct : List Value) (w : World), HF w G f c → HT w G t ct → There G w → (fieldP f v flex t).length ≤ 1099511627776 →
    Calls Tryd.prog 100 #[.agg c.toArray, .int .i64 v, .bool flex, .agg ct.toArray] w fun e w' => ∃ d, e = .returned d ∧ OB w' w.heap.size d (fieldP f v flex t) ∧ Keep [] w w'

abbrev fcells (f : F) (ao : Option Addr) (cap : Nat) : Array Value := #[.int .i64 f.kind, .int .i64 f.frm, .int .i64 f.to, .int .i64 f.nul, .int .i64 f.tag, .int .i64 f.dfl, .int .i64 f.ofk, .slice ao f.sub.length cap]
abbrev tcells (t : T) (az : Option Addr) (ps : Nat) (al : Option Addr) (pl : Nat) (au : Option Addr) (pu : Nat) : Array Value := #[.int .i64 t.n, .slice az t.s.length ps, .bool t.null, .slice al t.l.length pl, .slice au t.u.length pu]

theorem cellOf {w : World} {b : Nat} {c : Array Value} {t : TypeId} {f : Nat × Nat} (h : w.heap[b]? = some (.cells c t f)) (i : Nat) (v : Value) (hv : c[i]? = some v) : w.cell? ⟨b, i, none⟩ = some v := by
  simp [World.cell?, h, hv]
theorem fbox {w : World} {b : Nat} {f : F} {ao : Option Addr} {cap : Nat} {T' : TypeId} {z : Nat × Nat} (h : w.heap[b]? = some (.cells (fcells f ao cap) T' z)) :
    w.cell? ⟨b, 0, none⟩ = some (.int .i64 f.kind) ∧ w.cell? ⟨b, 1, none⟩ = some (.int .i64 f.frm) ∧ w.cell? ⟨b, 2, none⟩ = some (.int .i64 f.to) ∧ w.cell? ⟨b, 3, none⟩ = some (.int .i64 f.nul) ∧
    w.cell? ⟨b, 4, none⟩ = some (.int .i64 f.tag) ∧ w.cell? ⟨b, 5, none⟩ = some (.int .i64 f.dfl) ∧ w.cell? ⟨b, 6, none⟩ = some (.int .i64 f.ofk) ∧ w.cell? ⟨b, 7, none⟩ = some (.slice ao f.sub.length cap) :=
  ⟨cellOf h 0 _ rfl, cellOf h 1 _ rfl, cellOf h 2 _ rfl, cellOf h 3 _ rfl, cellOf h 4 _ rfl, cellOf h 5 _ rfl, cellOf h 6 _ rfl, cellOf h 7 _ rfl⟩
theorem tbox {w : World} {b : Nat} {t : T} {az : Option Addr} {ps : Nat} {al : Option Addr} {pl : Nat} {au : Option Addr} {pu : Nat} {T' : TypeId} {z : Nat × Nat} (h : w.heap[b]? = some (.cells (tcells t az ps al pl au pu) T' z)) :
    w.cell? ⟨b, 0, none⟩ = some (.int .i64 t.n) ∧ w.cell? ⟨b, 1, none⟩ = some (.slice az t.s.length ps) ∧ w.cell? ⟨b, 2, none⟩ = some (.bool t.null) ∧ w.cell? ⟨b, 3, none⟩ = some (.slice al t.l.length pl) ∧ w.cell? ⟨b, 4, none⟩ = some (.slice au t.u.length pu) :=
  ⟨cellOf h 0 _ rfl, cellOf h 1 _ rfl, cellOf h 2 _ rfl, cellOf h 3 _ rfl, cellOf h 4 _ rfl⟩
/-- a field's box and a tree's box, cell by cell -/
abbrev FTS (f : F) (aS : Option Addr) (pS : Nat) (t : T) (az : Option Addr) (ps : Nat) (al : Option Addr) (pl : Nat) (au : Option Addr) (pu : Nat) (b1 b2 : Nat) (w' : World) : Prop := w'.cell? ⟨b1, 0, none⟩ = some (.int .i64 f.kind) ∧ w'.cell? ⟨b1, 1, none⟩ = some (.int .i64 f.frm) ∧ w'.cell? ⟨b1, 2, none⟩ = some (.int .i64 f.to) ∧ w'.cell? ⟨b1, 3, none⟩ = some (.int .i64 f.nul) ∧ w'.cell? ⟨b1, 4, none⟩ = some (.int .i64 f.tag) ∧ w'.cell? ⟨b1, 5, none⟩ = some (.int .i64 f.dfl) ∧ w'.cell? ⟨b1, 6, none⟩ = some (.int .i64 f.ofk) ∧ w'.cell? ⟨b1, 7, none⟩ = some (.slice aS f.sub.length pS) ∧ w'.cell? ⟨b2, 0, none⟩ = some (.int .i64 t.n) ∧ w'.cell? ⟨b2, 1, none⟩ = some (.slice az t.s.length ps) ∧ w'.cell? ⟨b2, 2, none⟩ = some (.bool t.null) ∧ w'.cell? ⟨b2, 3, none⟩ = some (.slice al t.l.length pl) ∧ w'.cell? ⟨b2, 4, none⟩ = some (.slice au t.u.length pu)
theorem FTS.of {f : F} {aS : Option Addr} {pS : Nat} {t : T} {az : Option Addr} {ps : Nat} {al : Option Addr} {pl : Nat} {au : Option Addr} {pu b1 b2 : Nat} {w : World} {T1 T2 : TypeId} {z1 z2 : Nat × Nat}
    (h1 : w.heap[b1]? = some (.cells (fcells f aS pS) T1 z1)) (h2 : w.heap[b2]? = some (.cells (tcells t az ps al pl au pu) T2 z2)) : FTS f aS pS t az ps al pl au pu b1 b2 w := by
  obtain ⟨q0, q1, q2, q3, q4, q5, q6, q7⟩ := fbox h1
  obtain ⟨r0, r1, r2, r3, r4⟩ := tbox h2
  exact ⟨q0, q1, q2, q3, q4, q5, q6, q7, r0, r1, r2, r3, r4⟩
theorem SameOn.via {G : Nat → Prop} {w w1 w2 : World} (h1 : SameOn G w w1) (h2 : SameOn G w w2) : SameOn G w1 w2 := fun k hk => (h2 k hk).trans (h1 k hk).symm
theorem oneBox {w w1 : World} {o1 : Obj} (h : Keep [] (w.alloc o1) w1) : w1.heap[w.heap.size]? = some o1 := by
  rw [h.block _ (by simp) (by simp)]
  exact heap_alloc_new w o1
theorem twoBoxes {w w1 : World} {o1 o2 : Obj} (h : Keep [] ((w.alloc o1).alloc o2) w1) : w1.heap[w.heap.size]? = some o1 ∧ w1.heap[w.heap.size + 1]? = some o2 := by
  constructor
  · rw [h.block _ (by simp; omega) (by simp), Below.heap_alloc _ _ _ (by simp)]
    exact heap_alloc_new w o1
  · rw [h.block _ (by simp) (by simp)]
    exact alloc_at2 _ _ _

theorem take_flat {α : Type} (L : List α) (g : α → Bs) (n : Nat) (hn : n < L.length) : (L.take (n + 1)).flatMap g = (L.take n).flatMap g ++ g L[n] := by
  rw [List.take_succ_eq_append_getElem hn, List.flatMap_append]; simp
theorem take_flat_le {α : Type} (L : List α) (g : α → Bs) (n : Nat) : ((L.take n).flatMap g).length ≤ (L.flatMap g).length := by
  have : L.flatMap g = (L.take n).flatMap g ++ (L.drop n).flatMap g := by rw [← List.flatMap_append, List.take_append_drop]
  rw [this, List.length_append]; omega

set_option maxHeartbeats 400000 in
set_option maxRecDepth 100000 in
theorem field_list {f : F} {v : Int} {flex : Bool} (hp : PartSaid f.sub v flex) {G : Nat → Prop} {c : List Value} {t : T} {ct : List Value} {w : World} (hf : HF w G f c) (ht : HT w G t ct) (hG : There G w)
    (h11 : f.kind = 11) (hnull : f.isNull v t = false)
    (hb : (countedP flex false (things t.l).length 4 ++ (things t.l).flatMap fun x => valueP f.ofk (partP f.sub v flex) false flex x).length ≤ 1099511627776) :
    Calls Tryd.prog 100 #[.agg c.toArray, .int .i64 v, .bool flex, .agg ct.toArray] w fun e w' => ∃ d, e = .returned d ∧ OB w' w.heap.size d (countedP flex false (things t.l).length 4 ++ (things t.l).flatMap fun x => valueP f.ofk (partP f.sub v flex) false flex x) ∧ Keep [] w w' := by
  obtain ⟨ao, cap, rfl, hsub⟩ := hf.cells
  obtain ⟨az, ps, al, pl, au, pu, rfl, hs, hl, hu, hn1, hn2, hn3, hn4⟩ := ht.cells
  have K1 : Keep [] w ((w.alloc (.cells (fcells f ao cap) 59)).alloc (.cells (tcells t az ps al pl au pu) 26)) := (keep_box _).alloc _
  have hG1 := hG.keep K1
  have hf1 := hf.keepF (hG.same K1) (fun _ h => h)
  have ht1 := ht.keepF (hG.same K1) (fun _ h => h)
  have hl1 := hl.keepF (hG.same K1) (fun _ h => h)
  have hsub1 := hsub.keepF (hG.same K1) (fun _ h => h)
  have N1 := null_any hf1 ht1 v
  rw [hnull] at N1
  have HB : Hid ((countedP flex false (things t.l).length 4 ++ (things t.l).flatMap fun x => valueP f.ofk (partP f.sub v flex) false flex x).length ≤ 1099511627776) := hb
  have hkd : (f.kind == 11) = true := by rw [h11]; rfl
  clear hf ht hl hu hs hf1 ht1 h11 hnull hb
  go_enter Tryd.func100, Tryd.ntmps100
  go_wp2_with (first
    | (go_at_call 124; refine N1.mono ?_; rintro e w1 ⟨rfl, hk1⟩; obtain ⟨q0, q1, q2, q3, q4, q5, q6, q7⟩ := fbox (twoBoxes hk1).1; obtain ⟨r0, r1, r2, r3, r4⟩ := tbox (twoBoxes hk1).2; clear q1 q2 q4 q5)
    | (go_at_call 125; refine (things_any (hl1.keepF (hG1.same hk1) (fun _ h => h))).mono ?_; rintro e w2 ⟨dl, rfl, hdl, rfl⟩; obtain ⟨aL, pL, rfl, hpL⟩ := hdl.shape)
    | (go_at_call 133; refine (counted_any flex false _ 4 (by have := hdl.bd; omega) (by decide) _).mono ?_; rintro e w2 ⟨d2, rfl, ho2, hk2⟩))
  have hLb := hdl.bd
  have ho2' : OB w2 (w.heap.size + 2) d2 _ := ho2.lower (by have := hk1.size; simp at this; omega)
  have hk12 := hk1.trans hk2
  generalize hLe : things t.l = L at *
  have HLE : Hid (things t.l = L) := hLe
  clear hLe
  clear q0 q3 q6 q7 r0 r1 r2 r3 r4 hkd N1 hsub ho2 hl1 hk2
  go_loopw [11, 31] (fun o k wr => ∃ n : Nat, n ≤ L.length ∧ k = .int .i64 n ∧ ∃ acc : Bs, Hid (acc = countedP flex false L.length 4 ++ (L.take n).flatMap fun x => valueP f.ofk (partP f.sub v flex) false flex x) ∧ OB wr (w.heap.size + 2) o acc ∧ Keep [] ((w.alloc (.cells (fcells f ao cap) 59)).alloc (.cells (tcells t az ps al pl au pu) 26)) wr) (fun _ k _ => L.length - (intOf k).toNat)
  case atStart => exact ⟨0, Nat.zero_le _, rfl, _, by simp [Hid], ho2', hk12⟩
  case round =>
    obtain ⟨n, hn, rfl, acc, hacc, hown, hkeep⟩ := hrel
    obtain ⟨q0, q1, q2, q3, q4, q5, q6, q7⟩ := fbox (twoBoxes hkeep).1
    have hBr : w.heap.size + 2 ≤ wr.heap.size := by have := hkeep.size; simp at this; omega
    have hGr := hG1.keep hkeep
    clear q0 q1 q2 q3 q4 q5
    by_cases hlt : n < L.length
    · obtain ⟨b, o, cp, c, e, hcp, hGb, hc, hcell⟩ := (hdl.keepF (SameOn.via (hG1.same hk1) (hG1.same hkeep)) (fun _ h => h)).elem hlt
      cases e
      obtain ⟨az', ps', al', pl', au', pu', rfl, _⟩ := id hc.cells
      have hblt : b < wr.heap.size := hGr b hGb
      have hbw : b < w.heap.size := hG b hGb
      have c0 : wr.cell? ⟨b, o + n * 5, none⟩ = some _ := hcell 0 (by simp)
      have c1 : wr.cell? ⟨b, o + n * 5 + 1, none⟩ = some _ := hcell 1 (by simp)
      have c2 : wr.cell? ⟨b, o + n * 5 + 2, none⟩ = some _ := hcell 2 (by simp)
      have c3 : wr.cell? ⟨b, o + n * 5 + 3, none⟩ = some _ := hcell 3 (by simp)
      have c4 : wr.cell? ⟨b, o + n * 5 + 4, none⟩ = some _ := hcell 4 (by simp)
      simp only [List.getElem_cons_zero, List.getElem_cons_succ] at c0 c1 c2 c3 c4
      clear hcell
      have hbd : acc.length + (valueP f.ofk (partP f.sub v flex) false flex L[n]).length ≤ 1099511627776 := by
        have e1 := take_flat L (fun x => valueP f.ofk (partP f.sub v flex) false flex x) n hlt
        have e2 := take_flat_le L (fun x => valueP f.ofk (partP f.sub v flex) false flex x) (n + 1)
        have e3 := HB.out
        have e4 := hacc.out
        rw [e1] at e2
        rw [e4]
        simp only [List.length_append] at e2 e3 ⊢
        omega
      have V : ∀ W, Keep [] wr W → _ := fun W hW => value_any (kind := f.ofk) (null := false) hp (hsub1.keepF (hG1.same (hkeep.trans hW)) (fun _ h => h)) (hc.keepF (hGr.same hW) (fun _ h => h)) (hG1.keep (hkeep.trans hW)) (by omega)
      generalize hLn : L[n] = x at *
      have HLN : Hid (L[n] = x) := hLn
      have HBD : Hid _ := hbd
      clear hLn hbd hc
      go_wp2_with fail
      go_region_held3 (fun w' => w'.cell? ⟨w.heap.size, 6, none⟩ = some (.int .i64 f.ofk) ∧ w'.cell? ⟨w.heap.size, 7, none⟩ = some (.slice ao f.sub.length cap) ∧ w'.cell? ⟨b, o + n * 5, none⟩ = some (.int .i64 x.n) ∧ w'.cell? ⟨b, o + n * 5 + 1, none⟩ = some (.slice az' x.s.length ps') ∧
          w'.cell? ⟨b, o + n * 5 + 2, none⟩ = some (.bool x.null) ∧ w'.cell? ⟨b, o + n * 5 + 3, none⟩ = some (.slice al' x.l.length pl') ∧ w'.cell? ⟨b, o + n * 5 + 4, none⟩ = some (.slice au' x.u.length pu')) (go_keep) (first
        | (go_at_call 134; refine (V _ (Keep.refl _ _).drew).mono ?_; rintro e w' ⟨d, rfl, h1, h2⟩; have h3 : Keep [] wr w' := (Keep.refl _ _).drew.trans h2; have hown2 := hown.keep h3; have h3c0 := h3.cell (p := ⟨w.heap.size, 6, none⟩) (show w.heap.size < wr.heap.size by omega) (by simp); have h3c1 := h3.cell (p := ⟨w.heap.size, 7, none⟩) (show w.heap.size < wr.heap.size by omega) (by simp); have h3c2 := h3.cell (p := ⟨b, o + n * 5, none⟩) (show b < wr.heap.size by omega) (by simp); have h3c3 := h3.cell (p := ⟨b, o + n * 5 + 1, none⟩) (show b < wr.heap.size by omega) (by simp); have h3c4 := h3.cell (p := ⟨b, o + n * 5 + 2, none⟩) (show b < wr.heap.size by omega) (by simp); have h3c5 := h3.cell (p := ⟨b, o + n * 5 + 3, none⟩) (show b < wr.heap.size by omega) (by simp); have h3c6 := h3.cell (p := ⟨b, o + n * 5 + 4, none⟩) (show b < wr.heap.size by omega) (by simp))
        | (refine app_step (by rfl) (.tmp 34) (.tmp 45) (by rfl) (w.heap.size + 2) _ acc (by rfl) hown2 _ _ _ (by rfl) h1.rb (by have := HBD.out; omega) (by have := h2.size; simp at this; omega) ?_; intro v' w3 ho hg; have hsz := h2.size; have oc0 := own_cell (hown2) hg (p := ⟨w.heap.size, 6, none⟩) (show w.heap.size < w.heap.size + 2 by omega) (by first | omega | (simp at hsz; omega)); have oc1 := own_cell (hown2) hg (p := ⟨w.heap.size, 7, none⟩) (show w.heap.size < w.heap.size + 2 by omega) (by first | omega | (simp at hsz; omega)); have oc2 := own_cell (hown2) hg (p := ⟨b, o + n * 5, none⟩) (show b < w.heap.size + 2 by omega) (by first | omega | (simp at hsz; omega)); have oc3 := own_cell (hown2) hg (p := ⟨b, o + n * 5 + 1, none⟩) (show b < w.heap.size + 2 by omega) (by first | omega | (simp at hsz; omega)); have oc4 := own_cell (hown2) hg (p := ⟨b, o + n * 5 + 2, none⟩) (show b < w.heap.size + 2 by omega) (by first | omega | (simp at hsz; omega)); have oc5 := own_cell (hown2) hg (p := ⟨b, o + n * 5 + 3, none⟩) (show b < w.heap.size + 2 by omega) (by first | omega | (simp at hsz; omega)); have oc6 := own_cell (hown2) hg (p := ⟨b, o + n * 5 + 4, none⟩) (show b < w.heap.size + 2 by omega) (by first | omega | (simp at hsz; omega))))
      go_wp2
      go_roundw
      case rel =>
        refine ⟨n + 1, by omega, by go_num, _, ?_, ho, (hkeep.trans h3).grown hg fun k e => .inr (by have := (hown2.lt k e).1; simp; omega)⟩
        · have e1 := take_flat L (fun x => valueP f.ofk (partP f.sub v flex) false flex x) n hlt
          have e4 := hacc.out
          have e5 := HLN.out
          show _ = _
          rw [e1, e5, e4, List.append_assoc]
      case measure => simp [intOf]; omega
    · go_wp2
      go_ret
      refine ⟨_, rfl, ?_, K1.trans hkeep⟩
      have e4 := hacc.out
      rw [List.take_of_length_le (by omega)] at e4
      rw [HLE.out, ← e4]
      exact hown.lower (by omega)
end Go.Proofs.YtnemimighhpcaaaDoor
