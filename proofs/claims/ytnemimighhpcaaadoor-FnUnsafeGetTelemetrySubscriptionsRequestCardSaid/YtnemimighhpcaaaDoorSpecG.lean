/-
  spec.part: its first loop, and all of it where the version is not flexible.
-/
import Derived.Test.YtnemimighhpcaaaDoorSpecF
namespace Go.Proofs.YtnemimighhpcaaaDoor
open Go.ChangeShapes Go.WideShapes Go.ChangeAt Go.RowKit

theorem filter_take {α : Type} (L : List α) (p : α → Bool) (g : α → Bs) (n : Nat) (hn : n < L.length) :
    ((L.take (n + 1)).filter p).flatMap g = ((L.take n).filter p).flatMap g ++ if p L[n] then g L[n] else [] := by
  rw [List.take_succ_eq_append_getElem hn, List.filter_append, List.flatMap_append]
  by_cases h : p L[n] <;> simp [h]
theorem filter_take_le {α : Type} (L : List α) (p : α → Bool) (g : α → Bs) (n : Nat) : (((L.take n).filter p).flatMap g).length ≤ ((L.filter p).flatMap g).length := by
  have : (L.filter p).flatMap g = ((L.take n).filter p).flatMap g ++ ((L.drop n).filter p).flatMap g := by rw [← List.flatMap_append, ← List.filter_append, List.take_append_drop]
  rw [this, List.length_append]; omega

/-- the fields without tags, the first n of them -/
def plainTo (fs : List F) (v : Int) (flex : Bool) (t : T) (n : Nat) : Bs :=
  (((fieldsP fs v flex).zipIdx.take n).filter fun x => decide (x.1.1.tag < 0) && x.1.1.has v).flatMap fun x => x.1.2 (atT t x.2)
theorem fieldsP_length (fs : List F) (v : Int) (flex : Bool) : (fieldsP fs v flex).length = fs.length := by rw [fieldsP_map]; simp
theorem plainTo_all (fs : List F) (v : Int) (flex : Bool) (t : T) : plainTo fs v flex t fs.length = ((fieldsP fs v flex).zipIdx.filter fun x => decide (x.1.1.tag < 0) && x.1.1.has v).flatMap fun x => x.1.2 (atT t x.2) := by
  unfold plainTo
  rw [List.take_of_length_le (by simp [fieldsP_length])]
theorem plainTo_succ (fs : List F) (v : Int) (flex : Bool) (t : T) (n : Nat) (hn : n < fs.length) :
    plainTo fs v flex t (n + 1) = plainTo fs v flex t n ++ if (decide (fs[n].tag < 0) && fs[n].has v) = true then fieldP fs[n] v flex (atT t n) else [] := by
  unfold plainTo
  rw [filter_take _ _ _ n (by simp [fieldsP_length]; exact hn)]
  simp [fieldsP_map]
theorem plainTo_le (fs : List F) (v : Int) (flex : Bool) (t : T) (n : Nat) : (plainTo fs v flex t n).length ≤ (partP fs v flex t).length := by
  have h := filter_take_le (fieldsP fs v flex).zipIdx (fun x => decide (x.1.1.tag < 0) && x.1.1.has v) (fun x => x.1.2 (atT t x.2)) n
  unfold partP partOf plainTo
  cases flex
  · simpa using h
  · simp only [Bool.not_true, Bool.false_eq_true, if_false, List.length_append]
    omega

set_option maxHeartbeats 1000000 in
set_option maxRecDepth 100000 in
theorem part_plain {fs : List F} {v : Int} (hfs : ∀ f ∈ fs, FieldSaid f v false) : PartSaid fs v false := by
  intro G vs t c w hF ht hG hb
  have HB : Hid _ := hb
  have hFb := hF.bd
  obtain ⟨aF, pF, rfl, hpF⟩ := hF.shape
  obtain ⟨az, ps, al, pl, au, pu, rfl, hs, hl, hu, hn1, hn2, hn3, hn4⟩ := ht.cells
  have AT := fun W (hW : Keep [] w W) i => at_any (ht.keepF (hG.same hW) (fun _ h => h)) (hG.keep hW) i
  clear hb hs hl hu
  go_enter Tryd.func47, Tryd.ntmps47
  go_wp2_with fail
  go_loopw [9, 23] (fun o k wr => ∃ n : Nat, n ≤ fs.length ∧ k = .int .i64 n ∧ OB wr (w.heap.size + 1) o (plainTo fs v false t n) ∧ Keep [] (w.alloc (.cells (tcells t az ps al pl au pu) 26)) wr) (fun _ k _ => fs.length - (intOf k).toNat)
  case atStart => exact ⟨0, Nat.zero_le _, rfl, by simpa [plainTo] using OB.nil _ _, Keep.refl _ _⟩
  case round =>
    obtain ⟨n, hn, rfl, hown, hkeep⟩ := hrel
    have hk := (keep_box _).trans hkeep
    have hbox : wr.heap[w.heap.size]? = some (.cells (tcells t az ps al pl au pu) 26) := by
      rw [hkeep.block _ (by simp) (by simp)]
      exact heap_alloc_new w _
    obtain ⟨r0, r1, r2, r3, r4⟩ := tbox hbox
    have HBX : Hid _ := hbox
    have hBr : w.heap.size + 1 ≤ wr.heap.size := by have := hkeep.size; simp at this; omega
    have hGr := hG.keep hk
    clear hbox
    by_cases hlt : n < fs.length
    · obtain ⟨b, o, cp, cf, e, hcp, hGb, hc, hcell⟩ := (hF.keepF (hG.same hk) (fun _ h => h)).elem hlt
      cases e
      have FS := hfs fs[n] (List.getElem_mem hlt)
      have hsucc := plainTo_succ fs v false t n hlt
      have hle := plainTo_le fs v false t (n + 1)
      obtain ⟨aS, pS, rfl, hsub⟩ := hc.cells
      have hblt : b < wr.heap.size := hGr b hGb
      have hbw : b < w.heap.size := hG b hGb
      have c0 : wr.cell? ⟨b, o + n * 8, none⟩ = some _ := hcell 0 (by simp)
      have c1 : wr.cell? ⟨b, o + n * 8 + 1, none⟩ = some _ := hcell 1 (by simp)
      have c2 : wr.cell? ⟨b, o + n * 8 + 2, none⟩ = some _ := hcell 2 (by simp)
      have c3 : wr.cell? ⟨b, o + n * 8 + 3, none⟩ = some _ := hcell 3 (by simp)
      have c4 : wr.cell? ⟨b, o + n * 8 + 4, none⟩ = some _ := hcell 4 (by simp)
      have c5 : wr.cell? ⟨b, o + n * 8 + 5, none⟩ = some _ := hcell 5 (by simp)
      have c6 : wr.cell? ⟨b, o + n * 8 + 6, none⟩ = some _ := hcell 6 (by simp)
      have c7 : wr.cell? ⟨b, o + n * 8 + 7, none⟩ = some _ := hcell 7 (by simp)
      simp only [List.getElem_cons_zero, List.getElem_cons_succ] at c0 c1 c2 c3 c4 c5 c6 c7
      clear hcell
      generalize hfn : fs[n] = f at *
      have HFN : Hid (fs[n] = f) := hfn
      have HS : Hid _ := hsucc
      have HLE : Hid _ := hle
      clear hfn hsucc hle
      have HAS := fun W (hW : Keep [] wr W) => has_any (hc.keepF (hGr.same hW) (fun _ h => h)) v
      by_cases h1 : f.tag < 0
      · cases hhas : f.has v
        · rw [hhas] at HAS
          have HH : Hid (f.has v = false) := hhas
          clear hhas
          go_wp2_with (go_at_call 82; refine (HAS _ (keep_box _)).mono ?_; rintro e wh ⟨rfl, hkh⟩)
          go_roundw
          case rel =>
            refine ⟨n + 1, by omega, by go_num, ?_, hkeep.trans ((keep_box _).trans hkh)⟩
            have e1 := HS.out
            rw [HH.out] at e1
            simp at e1
            rw [e1]
            exact hown.keep ((keep_box _).trans hkh)
          case measure => simp [intOf]; omega
        · rw [hhas] at HAS
          have HH : Hid (f.has v = true) := hhas
          clear hhas
          have hlen : (plainTo fs v false t n).length + (fieldP f v false (atT t n)).length ≤ 1099511627776 := by
            have e1 := HS.out
            rw [HH.out] at e1
            simp [h1] at e1
            have e2 := HLE.out
            have e3 := HB.out
            rw [e1, List.length_append] at e2
            omega
          have HLN : Hid _ := hlen
          clear hlen
          go_wp2_with (go_at_call 82; refine (HAS _ (keep_box _)).mono ?_; rintro e wh ⟨rfl, hkh⟩; clear c0 c1 c2 c3 c4 c5 c6 c7 r0 r1 r2 r3 r4)
          have kh : Keep [] wr wh := (keep_box _).trans hkh
          have hb1 := oneBox hkh
          have hb2 : wh.heap[w.heap.size]? = some (.cells (tcells t az ps al pl au pu) 26) := (kh.block _ (by omega) (by simp)).trans HBX.out
          have hS := FTS.of hb1 hb2
          have HB1 : Hid _ := hb1
          have HB2 : Hid _ := hb2
          clear hb1 hb2
          have hwh : wr.heap.size + 1 ≤ wh.heap.size := by have := hkh.size; simp at this; omega
          go_region_held3 (fun w' => w'.cell? ⟨wr.heap.size, 0, none⟩ = some (.int .i64 f.kind) ∧ w'.cell? ⟨wr.heap.size, 1, none⟩ = some (.int .i64 f.frm) ∧ w'.cell? ⟨wr.heap.size, 2, none⟩ = some (.int .i64 f.to) ∧ w'.cell? ⟨wr.heap.size, 3, none⟩ = some (.int .i64 f.nul) ∧ w'.cell? ⟨wr.heap.size, 4, none⟩ = some (.int .i64 f.tag) ∧ w'.cell? ⟨wr.heap.size, 5, none⟩ = some (.int .i64 f.dfl) ∧ w'.cell? ⟨wr.heap.size, 6, none⟩ = some (.int .i64 f.ofk) ∧ w'.cell? ⟨wr.heap.size, 7, none⟩ = some (.slice aS f.sub.length pS) ∧ w'.cell? ⟨w.heap.size, 0, none⟩ = some (.int .i64 t.n) ∧ w'.cell? ⟨w.heap.size, 1, none⟩ = some (.slice az t.s.length ps) ∧ w'.cell? ⟨w.heap.size, 2, none⟩ = some (.bool t.null) ∧ w'.cell? ⟨w.heap.size, 3, none⟩ = some (.slice al t.l.length pl) ∧ w'.cell? ⟨w.heap.size, 4, none⟩ = some (.slice au t.u.length pu)) (exact hS) (first
            | (go_at_call 63; refine (AT _ (hk.trans (kh.trans (Keep.refl _ _).drew)) n).mono ?_; rintro e wx ⟨c', rfl, hc', kx⟩; obtain ⟨az', ps', al', pl', au', pu', rfl, _⟩ := hc'.cells; have kX : Keep [] wh wx := (Keep.refl _ _).drew.trans kx; have hS := FTS.of ((kX.block _ (by omega) (by simp)).trans HB1.out) ((kX.block _ (by omega) (by simp)).trans HB2.out))
            | (go_at_call 100; refine (FS G _ _ _ _ (hc.keepF (hGr.same (kh.trans kX)) (fun _ h => h)) hc' (hGr.keep (kh.trans kX)) (by have := HLN.out; omega)).mono ?_; rintro e wy ⟨d, rfl, hd, ky⟩; have kY : Keep [] wh wy := kX.trans ky; have hS := FTS.of ((kY.block _ (by omega) (by simp)).trans HB1.out) ((kY.block _ (by omega) (by simp)).trans HB2.out))
            | (refine app_step (by rfl) (.tmp 36) (.tmp 43) (by rfl) (w.heap.size + 1) _ (plainTo fs v false t n) (by rfl) (hown.keep (kh.trans kY)) _ _ _ (by rfl) hd.rb (by have := HLN.out; omega) (Nat.le_trans hBr (kh.trans kY).size) ?_; intro v' w3 ho hg; have hk3 := (hkeep.trans (kh.trans kY)).grown hg (fun k e => .inr (by have := ((hown.keep (kh.trans kY)).lt k e).1; simp; omega)); have hsy := kY.size; have hS := FTS.of ((hg.block wr.heap.size (by omega) (fun e => by have := (hown.lt _ e.symm).2; omega)).trans ((kY.block _ (by omega) (by simp)).trans HB1.out)) ((hg.block w.heap.size (by omega) (fun e => by have := (hown.lt _ e.symm).1; omega)).trans ((kY.block _ (by omega) (by simp)).trans HB2.out))))
          go_wp2
          go_roundw
          case rel =>
            refine ⟨n + 1, by omega, by go_num, ?_, hk3⟩
            have e1 := HS.out
            rw [HH.out] at e1
            simp [h1] at e1
            rw [e1]
            exact ho
          case measure => simp [intOf]; omega
      · go_wp2_with fail
        go_roundw
        case rel =>
          refine ⟨n + 1, by omega, by go_num, ?_, hkeep.trans (keep_box _)⟩
          have e1 := HS.out
          simp [h1] at e1
          rw [e1]
          exact hown.keep (keep_box _)
        case measure => simp [intOf]; omega
    · go_wp2
      go_ret
      obtain rfl : n = fs.length := by omega
      refine ⟨_, rfl, ?_, hk⟩
      have e := plainTo_all fs v false t
      unfold partP partOf
      simp only [Bool.not_false, if_true]
      rw [← e]
      exact hown.lower (by omega)
end Go.Proofs.YtnemimighhpcaaaDoor
