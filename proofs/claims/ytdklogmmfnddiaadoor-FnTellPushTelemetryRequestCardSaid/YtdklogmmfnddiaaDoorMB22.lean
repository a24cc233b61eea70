/-
  WHAT spec.Told ASKS OF WHAT WAS TOLD, in plain Lean; spec.number.
-/
import Derived.Test.YtdklogmmfnddiaaDoorMB17
import Derived.Test.YtdklogmmfnddiaaDoorMB2
import Derived.Test.YtdklogmmfnddiaaDoorMB4
import Derived.Test.YtdklogmmfnddiaaDoorMB18
namespace Go.Proofs.YtdklogmmfnddiaaDoor
open Go.ChangeShapes Go.WideShapes Go.ChangeAt Go.RowKit

/-- a number as a field of a kind has it -/
def numP (kind n : Int) : Int :=
  if kind = 0 then n % 2 else if kind = 1 then wrapN 1 n else if kind = 2 then wrapN 2 n else if kind = 3 then wrapN 4 n else if kind = 5 then n % 65536 else n
def isNum (kind : Int) : Bool := decide (0 ≤ kind) && decide (kind ≤ 6)
theorem wrapN_i8 (n : Int) : IntKind.i8.wrap n = wrapN 1 n := by
  unfold wrapN sgn
  simp [IntKind.wrap, IntKind.bits, IntKind.signed]
  split <;> split <;> omega
theorem wrapN_i16 (n : Int) : IntKind.i16.wrap n = wrapN 2 n := by
  unfold wrapN sgn
  simp [IntKind.wrap, IntKind.bits, IntKind.signed]
  split <;> split <;> omega
theorem wrapN_i32 (n : Int) : IntKind.i32.wrap n = wrapN 4 n := by
  unfold wrapN sgn
  simp [IntKind.wrap, IntKind.bits, IntKind.signed]
  split <;> split <;> omega
theorem wrapN_u16 (n : Int) : IntKind.u16.wrap n = n % 65536 := by simp [IntKind.wrap, IntKind.bits, IntKind.signed]
theorem wrapN_i64 {n : Int} (h1 : -9223372036854775808 ≤ n) (h2 : n ≤ 9223372036854775807) : wrapN 8 n = n := by
  unfold wrapN sgn
  simp
  split <;> omega
theorem wrapN_rg {k : Nat} (hk : k = 1 ∨ k = 2 ∨ k = 4) (n : Int) : -2147483648 ≤ wrapN k n ∧ wrapN k n ≤ 2147483647 := by
  unfold wrapN sgn
  rcases hk with rfl | rfl | rfl <;> simp <;> split <;> omega
theorem num_td {kind : Int} (h : isNum kind = true) (pt : T → T) (null : Bool) {t : T} (h1 : -9223372036854775808 ≤ t.n) (h2 : t.n ≤ 9223372036854775807) : (tdK kind pt null t).n = numP kind t.n := by
  have h8 := wrapN_i64 h1 h2
  simp only [isNum, Bool.and_eq_true, decide_eq_true_eq] at h
  unfold tdK numP
  by_cases k0 : kind = 0
  · simp [k0, T.n]
  by_cases k1 : kind = 1
  · simp [k1, T.n]
  by_cases k2 : kind = 2
  · simp [k2, T.n]
  by_cases k3 : kind = 3
  · simp [k3, T.n]
  by_cases k4 : kind = 4
  · simp only [k4]; simp; exact h8
  by_cases k5 : kind = 5
  · simp [k5, T.n]
  have k6 : kind = 6 := by omega
  simp only [k6]; simp; exact h8

set_option maxHeartbeats 400000 in
theorem number_any (kind n : Int) (w : World) :
    Calls Tryd.prog 27 #[.int .i64 kind, .int .i64 n] w fun e w' => e = .returned (.int .i64 (numP kind n)) ∧ w = w' := by
  have ha := and_one n
  have w1 := wrapN_i8 n
  have w2 := wrapN_i16 n
  have w3 := wrapN_i32 n
  have w5 := wrapN_u16 n
  have r1 := wrapN_rg (.inl rfl) n
  have r2 := wrapN_rg (.inr (.inl rfl)) n
  have r3 := wrapN_rg (.inr (.inr rfl)) n
  have e1 : IntKind.i64.wrap (wrapN 1 n) = wrapN 1 n := by rw [IntKind.wrap_i64]; omega
  have e2 : IntKind.i64.wrap (wrapN 2 n) = wrapN 2 n := by rw [IntKind.wrap_i64]; omega
  have e3 : IntKind.i64.wrap (wrapN 4 n) = wrapN 4 n := by rw [IntKind.wrap_i64]; omega
  have e5 : IntKind.i64.wrap (n % 65536) = n % 65536 := by rw [IntKind.wrap_i64]; omega
  by_cases k0 : kind = 0
  · subst k0
    go_enter Tryd.func27, Tryd.ntmps27
    go_wp2
    go_ret
    exact ⟨by simp [numP], rfl⟩
  by_cases k1 : kind = 1
  · subst k1
    go_enter Tryd.func27, Tryd.ntmps27
    go_wp2
    go_ret
    exact ⟨by simp [numP], rfl⟩
  by_cases k2 : kind = 2
  · subst k2
    go_enter Tryd.func27, Tryd.ntmps27
    go_wp2
    go_ret
    exact ⟨by simp [numP], rfl⟩
  by_cases k3 : kind = 3
  · subst k3
    go_enter Tryd.func27, Tryd.ntmps27
    go_wp2
    go_ret
    exact ⟨by simp [numP], rfl⟩
  by_cases k5 : kind = 5
  · subst k5
    go_enter Tryd.func27, Tryd.ntmps27
    go_wp2
    go_ret
    exact ⟨by simp [numP], rfl⟩
  go_enter Tryd.func27, Tryd.ntmps27
  go_wp2
  go_ret
  exact ⟨by simp [numP, k0, k1, k2, k3, k5], rfl⟩
end Go.Proofs.YtdklogmmfnddiaaDoor
/-
  spec.Defaults and spec.Usual at what is told.
-/
namespace Go.Proofs.YtdklogmmfnddiaaDoor
open Go.ChangeShapes Go.WideShapes Go.ChangeAt Go.RowKit

theorem field_tree0 (a b c d e : Value) (W : World) : (Instr.field 26 (.agg #[a, b, c, d, e]) 0).run Tryd.prog W = .ok a W := by kernel_rfl
/-- a field and a tree beside it, behind an alloc -/
theorem boxes2 {w wr : World} {f : F} {aS : Option Addr} {pS : Nat} {o : Obj} (hkeep : Keep [] (w.alloc o) wr) :
    (wr.alloc (.cells (fcells f aS pS) 52)).heap[wr.heap.size]? = some (.cells (fcells f aS pS) 52) ∧ (wr.alloc (.cells (fcells f aS pS) 52)).heap[w.heap.size]? = some o := by
  have h := hkeep.size
  simp at h
  exact ⟨heap_alloc_new _ _, ((keep_box (A := []) _).block _ (by omega) (by simp)).trans (oneBox hkeep)⟩
set_option maxHeartbeats 1000000 in
set_option maxRecDepth 100000 in
theorem defaults_any {G G' : Nat → Prop} {fs : List F} {vs : Value} {t : T} {c : List Value} {w : World} (hF : HFs w G vs fs) (ht : HT w G' t c) (hG : There G w) (hG' : There G' w)
    (hd : ∀ i (h : i < fs.length), fs[i].dfl ≠ 0 → (atT t i).n = numP fs[i].kind fs[i].dfl) :
    Calls Tryd.prog 11 #[vs, .agg c.toArray] w fun e w' => e = .returned (.bool true) ∧ Keep [] w w' := by
  have hFb := hF.bd
  obtain ⟨aF, pF, rfl, hpF⟩ := hF.shape
  obtain ⟨az, ps, al, pl, au, pu, rfl, hs, hl, hu, hn1, hn2, hn3, hn4⟩ := ht.cells
  have AT := fun W (hW : Keep [] w W) i => at_any (ht.keepF (hG'.same hW) (fun _ h => h)) (hG'.keep hW) i
  clear hs hl hu
  go_enter Tryd.func11, Tryd.ntmps11
  go_wp2_with fail
  go_loopw [9] (fun k wr => ∃ n : Nat, n ≤ fs.length ∧ k = .int .i64 n ∧ Keep [] (w.alloc (.cells (tcells t az ps al pl au pu) 26)) wr) (fun k _ => fs.length - (intOf k).toNat)
  case atStart => exact ⟨0, Nat.zero_le _, rfl, Keep.refl _ _⟩
  case round =>
    obtain ⟨n, hn, rfl, hkeep⟩ := hrel
    have hk := (keep_box _).trans hkeep
    obtain ⟨r0, r1, r2, r3, r4⟩ := tbox (oneBox hkeep)
    have hGr := hG.keep hk
    by_cases hlt : n < fs.length
    · have hdn := hd n hlt
      obtain ⟨b, o, cp, cf, e, hcp, hGb, hc, hcell⟩ := (hF.keepF (hG.same hk) (fun _ h => h)).elem hlt
      cases e
      obtain ⟨aS, pS, rfl, hsub⟩ := hc.cells
      have hblt : b < wr.heap.size := hGr b hGb
      have hbw : b < w.heap.size := hG b hGb
      have c0 : wr.cell? ⟨b, o + n * 8, none⟩ = some _ := hcell 0 (by simp)
      have c1 : wr.cell? ⟨b, o + n * 8 + 1, none⟩ = some _ := hcell 1 (by simp)
      have c2 : wr.cell? ⟨b, o + n * 8 + 2, none⟩ = some _ := hcell 2 (by simp)
      have c3 : wr.cell? ⟨b, o + n * 8 + 3, none⟩ = some _ := hcell 3 (by simp)
      have c4 : wr.cell? ⟨b, o + n * 8 + 4, none⟩ = some _ := hcell 4 (by simp)
      have c5 : wr.cell? ⟨b, o + n * 8 + 5, none⟩ = some _ := hcell 5 (by simp)
      have c6 : wr.cell? ⟨b, o + n * 8 + 6, none⟩ = some _ := hcell 6 (by simp)
      have c7 : wr.cell? ⟨b, o + n * 8 + 7, none⟩ = some _ := hcell 7 (by simp)
      simp only [List.getElem_cons_zero, List.getElem_cons_succ] at c0 c1 c2 c3 c4 c5 c6 c7
      clear hcell
      generalize fs[n] = f at *
      obtain ⟨hb1, hb2⟩ := boxes2 (f := f) (aS := aS) (pS := pS) hkeep
      have hsz := hkeep.size
      simp at hsz
      have kw : Keep [] w (wr.alloc (.cells (fcells f aS pS) 52)) := hk.alloc _
      have kb := hkeep.alloc (.cells (fcells f aS pS) 52)
      by_cases h0 : f.dfl = 0
      · have hd0 : (f.dfl != 0) = false := by simp [h0]
        go_wp2_with fail
        go_quiet (fail)
        go_wp2
        go_roundw
        case rel => exact ⟨n + 1, by omega, by go_num, (hkeep.alloc _).drewN _⟩
        case measure => simp [intOf]; omega
      · have hd0 : (f.dfl != 0) = true := by simp [h0]
        have NM := fun W => number_any f.kind f.dfl W
        rw [← hdn h0] at NM
        have HS := FTS.of hb1 hb2
        have FLD := fun (a b c d e : Value) W => field_tree0 a b c d e W
        go_wp2_with fail
        clear c0 c1 c2 c3 c4 c5 c6 c7 r0 r1 r2 r3 r4 hdn
        generalize (wr.alloc (.cells (fcells f aS pS) 52)) = wh at *
        have HB1 : Hid _ := hb1
        have HB2 : Hid _ := hb2
        clear hb1 hb2
        go_region_held3 (fun w' => w'.cell? ⟨wr.heap.size, 0, none⟩ = some (.int .i64 f.kind) ∧ w'.cell? ⟨wr.heap.size, 1, none⟩ = some (.int .i64 f.frm) ∧ w'.cell? ⟨wr.heap.size, 2, none⟩ = some (.int .i64 f.to) ∧ w'.cell? ⟨wr.heap.size, 3, none⟩ = some (.int .i64 f.nul) ∧ w'.cell? ⟨wr.heap.size, 4, none⟩ = some (.int .i64 f.tag) ∧ w'.cell? ⟨wr.heap.size, 5, none⟩ = some (.int .i64 f.dfl) ∧ w'.cell? ⟨wr.heap.size, 6, none⟩ = some (.int .i64 f.ofk) ∧ w'.cell? ⟨wr.heap.size, 7, none⟩ = some (.slice aS f.sub.length pS) ∧ w'.cell? ⟨w.heap.size, 0, none⟩ = some (.int .i64 t.n) ∧ w'.cell? ⟨w.heap.size, 1, none⟩ = some (.slice az t.s.length ps) ∧ w'.cell? ⟨w.heap.size, 2, none⟩ = some (.bool t.null) ∧ w'.cell? ⟨w.heap.size, 3, none⟩ = some (.slice al t.l.length pl) ∧ w'.cell? ⟨w.heap.size, 4, none⟩ = some (.slice au t.u.length pu)) (exact HS) (first
          | (go_at_call 27; refine (NM _).mono ?_; rintro e wy ⟨rfl, rfl⟩)
          | (go_at_call 26; refine (AT _ (kw.drew) n).mono ?_; rintro e wx ⟨c', rfl, hc', kx⟩; obtain ⟨az', ps', al', pl', au', pu', rfl, _⟩ := hc'.cells; have kX : Keep [] wh wx := (Keep.refl _ _).drew.trans kx; have HS := FTS.of ((kX.block _ (World.heap_lt HB1.out) (by simp)).trans HB1.out) ((kX.block _ (World.heap_lt HB2.out) (by simp)).trans HB2.out)))
        all_goals go_wp2
        all_goals go_roundw
        all_goals (first | exact ⟨n + 1, by omega, by go_num, kb.trans kX⟩ | (simp [intOf]; omega))
    · go_wp2
      go_ret
      exact ⟨rfl, hk⟩

/-- what spec.Usual promises of these fields -/
def UsualSaid (fs : List F) : Prop :=
  ∀ (G G' : Nat → Prop) (vs : Value) (t : T) (c : List Value) (w : World), HFs w G vs fs → HT w G' t c → There G w → There G' w → t.u = [] → (∀ i (h : i < fs.length), atT t i = dflF fs[i]) →
    Calls Tryd.prog 36 #[vs, .agg c.toArray] w fun e w' => e = .returned (.bool true) ∧ Keep [] w w'
/-- a field whose default is one that it can have -/
def dflOk (f : F) : Prop := (f.kind = 7 ∨ f.kind = 8 ∨ f.kind = 9 ∨ f.kind = 10 ∨ f.kind = 11) ∨ numP f.kind f.dfl = f.dfl

theorem HT.plain {w : World} {G : Nat → Prop} {n : Int} {b : Bool} {c : List Value} (h : HT w G (.mk n [] b [] []) c) : ∃ az ps al pl au pu, c = [.int .i64 n, .slice az 0 ps, .bool b, .slice al 0 pl, .slice au 0 pu] := by
  obtain ⟨az, ps, al, pl, au, pu, rfl, -⟩ := h.cells
  exact ⟨az, ps, al, pl, au, pu, rfl⟩
theorem HT.uuid {w : World} {G : Nat → Prop} {n : Int} {b : Bool} {c : List Value} (h : HT w G (.mk n (List.replicate 16 0) b [] []) c) : ∃ az ps al pl au pu, c = [.int .i64 n, .slice az 16 ps, .bool b, .slice al 0 pl, .slice au 0 pu] ∧ RB w G (.slice az 16 ps) (List.replicate 16 0) := by
  obtain ⟨az, ps, al, pl, au, pu, rfl, hs, -⟩ := h.cells
  exact ⟨az, ps, al, pl, au, pu, rfl, hs⟩
theorem dflF_eq (f : F) : dflF f = if f.kind = 7 then .mk 0 (List.replicate 16 0) false [] [] else if f.kind = 8 then .mk 0 [] (decide (0 ≤ f.nul)) [] []
    else if f.kind = 9 ∨ f.kind = 11 then .mk 0 [] true [] [] else if f.kind = 10 then (if 0 ≤ f.nul then .mk 0 [] true [] [] else .mk 0 [] false (dflFs f.sub) []) else .mk f.dfl [] false [] [] := by
  cases f
  unfold dflF
  rfl
theorem dflFs_at : ∀ (fs : List F) (i : Nat) (h : i < fs.length), (dflFs fs).getD i T.zero = dflF fs[i]
  | [], _, h => by simp at h
  | f :: r, 0, _ => rfl
  | f :: r, i + 1, h => by simpa [dflFs] using dflFs_at r i (by simpa using h)
set_option maxHeartbeats 4000000 in
set_option maxRecDepth 100000 in
theorem usual_step {fs : List F} (hfs : ∀ f ∈ fs, f.kind = 10 → f.nul < 0 → UsualSaid f.sub) (hok : ∀ f ∈ fs, dflOk f) : UsualSaid fs := by
  intro G G' vs t c w hF ht hG hG' htu hd
  have hFb := hF.bd
  obtain ⟨aF, pF, rfl, hpF⟩ := hF.shape
  obtain ⟨az, ps, al, pl, au, pu, rfl, hs, hl, hu, hn1, hn2, hn3, hn4⟩ := ht.cells
  have AT := fun W (hW : Keep [] w W) i => at_any (ht.keepF (hG'.same hW) (fun _ h => h)) (hG'.keep hW) i
  have hul : ¬ (0 : Int) < (t.u.length : Int) := by rw [htu]; simp
  have hmk := make16
  clear hs hl hu htu
  go_enter Tryd.func36, Tryd.ntmps36
  go_wp2_with fail
  clear hul
  go_loopw [14] (fun k wr => ∃ n : Nat, n ≤ fs.length ∧ k = .int .i64 n ∧ Keep [] (w.alloc (.cells (tcells t az ps al pl au pu) 26)) wr) (fun k _ => fs.length - (intOf k).toNat)
  case atStart => exact ⟨0, Nat.zero_le _, rfl, Keep.refl _ _⟩
  case round =>
    obtain ⟨n, hn, rfl, hkeep⟩ := hrel
    have hk := (keep_box _).trans hkeep
    obtain ⟨r0, r1, r2, r3, r4⟩ := tbox (oneBox hkeep)
    have hGr := hG.keep hk
    by_cases hlt : n < fs.length
    · have hdn := hd n hlt
      have hfn := hfs fs[n] (List.getElem_mem hlt)
      have hokn := hok fs[n] (List.getElem_mem hlt)
      obtain ⟨b, o, cp, cf, e, hcp, hGb, hc, hcell⟩ := (hF.keepF (hG.same hk) (fun _ h => h)).elem hlt
      cases e
      obtain ⟨aS, pS, rfl, hsub⟩ := hc.cells
      have hblt : b < wr.heap.size := hGr b hGb
      have hbw : b < w.heap.size := hG b hGb
      have c0 : wr.cell? ⟨b, o + n * 8, none⟩ = some _ := hcell 0 (by simp)
      have c1 : wr.cell? ⟨b, o + n * 8 + 1, none⟩ = some _ := hcell 1 (by simp)
      have c2 : wr.cell? ⟨b, o + n * 8 + 2, none⟩ = some _ := hcell 2 (by simp)
      have c3 : wr.cell? ⟨b, o + n * 8 + 3, none⟩ = some _ := hcell 3 (by simp)
      have c4 : wr.cell? ⟨b, o + n * 8 + 4, none⟩ = some _ := hcell 4 (by simp)
      have c5 : wr.cell? ⟨b, o + n * 8 + 5, none⟩ = some _ := hcell 5 (by simp)
      have c6 : wr.cell? ⟨b, o + n * 8 + 6, none⟩ = some _ := hcell 6 (by simp)
      have c7 : wr.cell? ⟨b, o + n * 8 + 7, none⟩ = some _ := hcell 7 (by simp)
      simp only [List.getElem_cons_zero, List.getElem_cons_succ] at c0 c1 c2 c3 c4 c5 c6 c7
      clear hcell
      generalize fs[n] = f at *
      have hb1 : (wr.alloc (.cells #[.int .i64 f.kind, .int .i64 f.frm, .int .i64 f.to, .int .i64 f.nul, .int .i64 f.tag, .int .i64 f.dfl, .int .i64 f.ofk, .slice aS f.sub.length pS] 52)).heap[wr.heap.size]? = some (.cells #[.int .i64 f.kind, .int .i64 f.frm, .int .i64 f.to, .int .i64 f.nul, .int .i64 f.tag, .int .i64 f.dfl, .int .i64 f.ofk, .slice aS f.sub.length pS] 52 (0, 0)) := heap_alloc_new _ _
      have hsz := hkeep.size
      simp at hsz
      have kw : Keep [] w (wr.alloc (.cells #[.int .i64 f.kind, .int .i64 f.frm, .int .i64 f.to, .int .i64 f.nul, .int .i64 f.tag, .int .i64 f.dfl, .int .i64 f.ofk, .slice aS f.sub.length pS] 52)) := hk.alloc _
      have kb : Keep [] (w.alloc (.cells (tcells t az ps al pl au pu) 26)) (wr.alloc (.cells #[.int .i64 f.kind, .int .i64 f.frm, .int .i64 f.to, .int .i64 f.nul, .int .i64 f.tag, .int .i64 f.dfl, .int .i64 f.ofk, .slice aS f.sub.length pS] 52)) := hkeep.alloc _
      have kx1 : Keep [] wr (wr.alloc (.cells #[.int .i64 f.kind, .int .i64 f.frm, .int .i64 f.to, .int .i64 f.nul, .int .i64 f.tag, .int .i64 f.dfl, .int .i64 f.ofk, .slice aS f.sub.length pS] 52)) := keep_box _
      obtain ⟨s0, s1, s2, s3, s4⟩ := tbox (oneBox kb)
      have AN := AT _ kw n
      rw [hdn] at AN
      have hx0 := dflF_eq f
      unfold dflOk at hokn
      generalize dflF f = x at *
      generalize f.kind = kd at *
      have HF1 : Hid _ := hfn
      have HB1 : Hid _ := hb1
      have HSUB : Hid _ := hsub
      clear hfn hb1 hdn
      by_cases k7 : kd = 7
      · subst k7
        rw [if_pos rfl] at hx0
        subst hx0
        go_wp2_with (go_at_call 26; go_loud (refine AN.mono ?_; rintro e wx ⟨c', rfl, hc', kx⟩; obtain ⟨az', ps', al', pl', au', pu', rfl, hs'⟩ := hc'.uuid; clear c0 c1 c2 c3 c4 c5 c6 c7 r0 r1 r2 r3 r4 s0 s1 s2 s3 s4; have hb3 := (kx.block _ (by simp) (by simp)).trans HB1.out; have q0 := cellOf hb3 0 _ rfl; have q3 := cellOf hb3 3 _ rfl; have q5 := cellOf hb3 5 _ rfl; have q7 := cellOf hb3 7 _ rfl; have kz := kb.trans kx; have kzw := kw.trans kx; have lx := World.heap_lt hb3))
        have hS : (wx.alloc (.cells #[.int .i64 0, .slice az' 16 ps', .bool false, .slice al' 0 pl', .slice au' 0 pu'] 26)).cell? ⟨wx.heap.size, 1, none⟩ = some (.slice az' 16 ps') := cellOf (heap_alloc_new _ _) 1 _ rfl
        have kS : Keep [] wx (((wx.alloc (.cells #[.int .i64 0, .slice az' 16 ps', .bool false, .slice al' 0 pl', .slice au' 0 pu'] 26)).drew).alloc (.cells (List.replicate 16 (.int .u8 0)).toArray 5)) := (keep_box _).drew.alloc _
        have rbz := (ob_new' (w := (wx.alloc (.cells #[.int .i64 0, .slice az' 16 ps', .bool false, .slice al' 0 pl', .slice au' 0 pu'] 26)).drew) (B := 0) (g := wx.heap.size + 1) (cs := (List.replicate 16 (.int .u8 0)).toArray) (l := List.replicate 16 0) (n := 16) (by simp) (Nat.zero_le _) rfl rfl (by simp [maxLen])).rb
        go_region_held3 (fun w' => w'.cell? ⟨wx.heap.size, 1, none⟩ = some (.slice az' 16 ps')) (first | exact hS | exact kS.cs ((cellOf (heap_alloc_new wx (.cells #[.int .i64 0, .slice az' 16 ps', .bool false, .slice al' 0 pl', .slice au' 0 pu'] 26)) 1 _ rfl : _)) | (refine Keep.cs (w := (wx.alloc (.cells #[.int .i64 0, .slice az' 16 ps', .bool false, .slice al' 0 pl', .slice au' 0 pu'] 26))) ?_ hS; exact (Keep.refl _ _).drew.alloc _) | (refine Keep.cs (w := (wx.alloc (.cells #[.int .i64 0, .slice az' 16 ps', .bool false, .slice al' 0 pl', .slice au' 0 pu'] 26))) ?_ hS; exact ((Keep.refl _ _).drew.alloc _).trans ky)) (first
          | (go_at_call 38; go_loud (refine (same_any (a := List.replicate 16 0) (b := List.replicate 16 0) (hs'.keepF (fun k hk' => kS.block k (hG'.keep kzw k hk') List.not_mem_nil) (fun _ h => h)) rbz (by simp) (by simp)).mono ?_; rintro e wy ⟨rfl, ky⟩)))
        go_wp2
        go_roundw
        case rel => exact ⟨n + 1, by omega, by go_num, kz.trans (kS.trans ky)⟩
        case measure => simp [intOf]; omega
      rw [if_neg k7] at hx0
      by_cases k8 : kd = 8
      · subst k8
        rw [if_pos rfl] at hx0
        by_cases h0 : 0 ≤ f.nul
        · rw [decide_eq_true h0] at hx0
          subst hx0
          go_wp2_with (go_at_call 26; go_loud (refine AN.mono ?_; rintro e wx ⟨c', rfl, hc', kx⟩; obtain ⟨az', ps', al', pl', au', pu', rfl⟩ := hc'.plain; clear c0 c1 c2 c3 c4 c5 c6 c7 r0 r1 r2 r3 r4 s0 s1 s2 s3 s4; have hb3 := (kx.block _ (by simp) (by simp)).trans HB1.out; have q0 := cellOf hb3 0 _ rfl; have q3 := cellOf hb3 3 _ rfl; have q5 := cellOf hb3 5 _ rfl; have q7 := cellOf hb3 7 _ rfl; have kz := kb.trans kx; have kzw := kw.trans kx; have lx := World.heap_lt hb3))
          go_roundw
          case rel => exact ⟨n + 1, by omega, by go_num, kz.alloc _⟩
          case measure => simp [intOf]; omega
        · rw [decide_eq_false h0] at hx0
          subst hx0
          go_wp2_with (go_at_call 26; go_loud (refine AN.mono ?_; rintro e wx ⟨c', rfl, hc', kx⟩; obtain ⟨az', ps', al', pl', au', pu', rfl⟩ := hc'.plain; clear c0 c1 c2 c3 c4 c5 c6 c7 r0 r1 r2 r3 r4 s0 s1 s2 s3 s4; have hb3 := (kx.block _ (by simp) (by simp)).trans HB1.out; have q0 := cellOf hb3 0 _ rfl; have q3 := cellOf hb3 3 _ rfl; have q5 := cellOf hb3 5 _ rfl; have q7 := cellOf hb3 7 _ rfl; have kz := kb.trans kx; have kzw := kw.trans kx; have lx := World.heap_lt hb3))
          go_roundw
          case rel => exact ⟨n + 1, by omega, by go_num, kz.alloc _⟩
          case measure => simp [intOf]; omega
      rw [if_neg k8] at hx0
      by_cases k9 : kd = 9 ∨ kd = 11
      · rw [if_pos k9] at hx0
        subst hx0
        rcases k9 with rfl | rfl
        · go_wp2_with (go_at_call 26; go_loud (refine AN.mono ?_; rintro e wx ⟨c', rfl, hc', kx⟩; obtain ⟨az', ps', al', pl', au', pu', rfl⟩ := hc'.plain; clear c0 c1 c2 c3 c4 c5 c6 c7 r0 r1 r2 r3 r4 s0 s1 s2 s3 s4; have hb3 := (kx.block _ (by simp) (by simp)).trans HB1.out; have q0 := cellOf hb3 0 _ rfl; have q3 := cellOf hb3 3 _ rfl; have q5 := cellOf hb3 5 _ rfl; have q7 := cellOf hb3 7 _ rfl; have kz := kb.trans kx; have kzw := kw.trans kx; have lx := World.heap_lt hb3))
          go_roundw
          case rel => exact ⟨n + 1, by omega, by go_num, kz.alloc _⟩
          case measure => simp [intOf]; omega
        · go_wp2_with (go_at_call 26; go_loud (refine AN.mono ?_; rintro e wx ⟨c', rfl, hc', kx⟩; obtain ⟨az', ps', al', pl', au', pu', rfl⟩ := hc'.plain; clear c0 c1 c2 c3 c4 c5 c6 c7 r0 r1 r2 r3 r4 s0 s1 s2 s3 s4; have hb3 := (kx.block _ (by simp) (by simp)).trans HB1.out; have q0 := cellOf hb3 0 _ rfl; have q3 := cellOf hb3 3 _ rfl; have q5 := cellOf hb3 5 _ rfl; have q7 := cellOf hb3 7 _ rfl; have kz := kb.trans kx; have kzw := kw.trans kx; have lx := World.heap_lt hb3))
          go_roundw
          case rel => exact ⟨n + 1, by omega, by go_num, kz.alloc _⟩
          case measure => simp [intOf]; omega
      rw [if_neg k9] at hx0
      have k9' : ¬ kd = 9 := fun h => k9 (.inl h)
      have k11 : ¬ kd = 11 := fun h => k9 (.inr h)
      clear k9
      by_cases k10 : kd = 10
      · subst k10
        rw [if_pos rfl] at hx0
        by_cases h0 : 0 ≤ f.nul
        · rw [if_pos h0] at hx0
          subst hx0
          have h0' : ¬ f.nul < 0 := by omega
          go_wp2_with (go_at_call 26; go_loud (refine AN.mono ?_; rintro e wx ⟨c', rfl, hc', kx⟩; obtain ⟨az', ps', al', pl', au', pu', rfl⟩ := hc'.plain; clear c0 c1 c2 c3 c4 c5 c6 c7 r0 r1 r2 r3 r4 s0 s1 s2 s3 s4; have hb3 := (kx.block _ (by simp) (by simp)).trans HB1.out; have q0 := cellOf hb3 0 _ rfl; have q3 := cellOf hb3 3 _ rfl; have q5 := cellOf hb3 5 _ rfl; have q7 := cellOf hb3 7 _ rfl; have kz := kb.trans kx; have kzw := kw.trans kx; have lx := World.heap_lt hb3))
          go_roundw
          case rel => exact ⟨n + 1, by omega, by go_num, kz.alloc _⟩
          case measure => simp [intOf]; omega
        · rw [if_neg h0] at hx0
          have HX : Hid _ := hx0
          have h0' : f.nul < 0 := by omega
          have HUS : Hid _ := HF1.out rfl h0'
          clear hx0
          go_wp2_with (first
            | (go_at_call 36; go_loud (refine (HUS.out G G' _ x _ _ (HFs.keepF HSUB.out (hGr.same ((kx1.trans kx).alloc _)) (fun _ h => h)) (hc'.keepF (fun k hk' => (keep_box (A := []) _).block k (hG'.keep kzw k hk') List.not_mem_nil) (fun _ h => h)) (hG.keep (kzw.alloc _)) (hG'.keep (kzw.alloc _)) (by rw [HX.out]; rfl) (fun i hi => by rw [HX.out]; exact dflFs_at _ i hi)).mono ?_; rintro e wy ⟨rfl, ky⟩))
            | (go_at_call 26; go_loud (refine AN.mono ?_; rintro e wx ⟨c', rfl, hc', kx⟩; obtain ⟨az', ps', al', pl', au', pu', rfl, -⟩ := id hc'.cells; clear c0 c1 c2 c3 c4 c5 c6 c7 r0 r1 r2 r3 r4 s0 s1 s2 s3 s4; have hb3 := (kx.block _ (by simp) (by simp)).trans HB1.out; have q0 := cellOf hb3 0 _ rfl; have q3 := cellOf hb3 3 _ rfl; have q5 := cellOf hb3 5 _ rfl; have q7 := cellOf hb3 7 _ rfl; have kz := kb.trans kx; have kzw := kw.trans kx; have lx := World.heap_lt hb3)))
          go_roundw
          case rel => exact ⟨n + 1, by omega, by go_num, (kz.alloc _).trans ky⟩
          case measure => simp [intOf]; omega
      rw [if_neg k10] at hx0
      subst hx0
      have hnum := hokn.resolve_left (by omega)
      have NM := fun W => number_any kd f.dfl W
      rw [hnum] at NM
      clear hnum
      go_wp2_with (go_at_call 26; go_loud (refine AN.mono ?_; rintro e wx ⟨c', rfl, hc', kx⟩; obtain ⟨az', ps', al', pl', au', pu', rfl⟩ := hc'.plain; clear c0 c1 c2 c3 c4 c5 c6 c7 r0 r1 r2 r3 r4 s0 s1 s2 s3 s4; have hb3 := (kx.block _ (by simp) (by simp)).trans HB1.out; have q0 := cellOf hb3 0 _ rfl; have q3 := cellOf hb3 3 _ rfl; have q5 := cellOf hb3 5 _ rfl; have q7 := cellOf hb3 7 _ rfl; have kz := kb.trans kx; have kzw := kw.trans kx; have lx := World.heap_lt hb3))
      have hS : (wx.alloc (.cells #[.int .i64 f.dfl, .slice az' 0 ps', .bool false, .slice al' 0 pl', .slice au' 0 pu'] 26)).cell? ⟨wx.heap.size, 0, none⟩ = some (.int .i64 f.dfl) ∧ (wx.alloc (.cells #[.int .i64 f.dfl, .slice az' 0 ps', .bool false, .slice al' 0 pl', .slice au' 0 pu'] 26)).cell? ⟨wr.heap.size, 0, none⟩ = some (.int .i64 kd) ∧ (wx.alloc (.cells #[.int .i64 f.dfl, .slice az' 0 ps', .bool false, .slice al' 0 pl', .slice au' 0 pu'] 26)).cell? ⟨wr.heap.size, 5, none⟩ = some (.int .i64 f.dfl) := ⟨cellOf (heap_alloc_new _ _) 0 _ rfl, (keep_box _).cs q0, (keep_box _).cs q5⟩
      go_region_held3 (fun w' => w'.cell? ⟨wx.heap.size, 0, none⟩ = some (.int .i64 f.dfl) ∧ w'.cell? ⟨wr.heap.size, 0, none⟩ = some (.int .i64 kd) ∧ w'.cell? ⟨wr.heap.size, 5, none⟩ = some (.int .i64 f.dfl)) (exact hS) (first
        | (go_at_call 27; refine (NM _).mono ?_; rintro e wy ⟨rfl, rfl⟩))
      go_wp2
      go_roundw
      case rel => exact ⟨n + 1, by omega, by go_num, (kz.alloc _).drew⟩
      case measure => simp [intOf]; omega
    · go_wp2
      go_ret
      exact ⟨rfl, hk⟩
end Go.Proofs.YtdklogmmfnddiaaDoor
/-
  spec.told at what is told of a field that is no list.
-/
namespace Go.Proofs.YtdklogmmfnddiaaDoor
open Go.ChangeShapes Go.WideShapes Go.ChangeAt Go.RowKit

theorem threeBoxes {w w1 : World} {o1 o2 o3 : Obj} (h : Keep [] (((w.alloc o1).alloc o2).alloc o3) w1) : w1.heap[w.heap.size]? = some o1 ∧ w1.heap[w.heap.size + 1]? = some o2 ∧ w1.heap[w.heap.size + 1 + 1]? = some o3 := by
  have h2 := twoBoxes ((keep_box (A := []) (w := (w.alloc o1).alloc o2) o3).trans h)
  refine ⟨h2.1, h2.2, ?_⟩
  have h3 := oneBox h
  simpa using h3
/-- what spec.Told promises of these fields -/
def ToldSaid (fs : List F) (v : Int) (flex : Bool) : Prop :=
  ∀ (G G' : Nat → Prop) (vs : Value) (t : T) (c cg : List Value) (w : World), HFs w G vs fs → HT w G t c → HT w G' (tdPart fs v flex t) cg → There G w → There G' w →
    Calls Tryd.prog 16 #[vs, .int .i64 v, .bool flex, .agg c.toArray, .agg cg.toArray] w fun e w' => e = .returned (.bool true) ∧ Keep [] w w'
/-- what spec.told promises of a field -/
def FieldTold (f : F) (v : Int) (flex : Bool) : Prop :=
  ∀ (G G' : Nat → Prop) (t : T) (cf c cg : List Value) (w : World), HF w G f cf → HT w G t c → HT w G' (tdF f v flex t) cg → There G w → There G' w →
    Calls Tryd.prog 35 #[.agg cf.toArray, .int .i64 v, .bool flex, .agg c.toArray, .agg cg.toArray] w fun e w' => e = .returned (.bool true) ∧ Keep [] w w'
theorem tdF_eq (f : F) (v : Int) (flex : Bool) (t : T) : tdF f v flex t = if f.kind = 11 then .mk 0 [] (if f.nul < 0 then (things t.l).isEmpty else f.isNull v t) ((if f.isNull v t then [] else things t.l).map (tdK f.ofk (tdPart f.sub v flex) false)) [] else tdK f.kind (tdPart f.sub v flex) (f.isNull v t) t := by
  cases f
  unfold tdF
  rfl
theorem copyPos {w : World} {G : Nat → Prop} {az : Option Addr} {n p : Nat} {l : Bs} (h : RB w G (.slice az n p) l) (h0 : 0 < l.length) : ∃ ad, az = some ad ∧ ∀ (j : Nat) (v : Value), ((l.take 16).map bv)[j]? = some v → w.cell? (ad.add j) = some v := by
  obtain ⟨ad, e, hc⟩ := RB.src h h0
  refine ⟨ad, e, fun j v hj => hc j v ?_⟩
  rw [List.map_take, List.getElem?_take] at hj
  split at hj
  · exact hj
  · cases hj
theorem isNull_neg {f : F} (h : f.nul < 0) (v : Int) (t : T) : f.isNull v t = false := by
  unfold F.isNull
  rw [show decide (0 ≤ f.nul) = false from decide_eq_false (by omega)]
  simp
theorem isNull_pos {f : F} {v : Int} {t : T} (h : f.isNull v t = true) : 0 ≤ f.nul ∧ f.nul ≤ v := by
  unfold F.isNull at h
  simp only [Bool.and_eq_true, decide_eq_true_eq] at h
  exact ⟨h.1.2, h.2⟩
section
variable {f : F} {v : Int} {flex : Bool}
set_option maxHeartbeats 4000000 in
set_option maxRecDepth 100000 in
theorem told_num (hk : isNum f.kind = true) (hn : f.nul < 0) : FieldTold f v flex := by
  intro G G' t cf c cg w hf ht hg hG hG'
  have hk0 := hk
  simp only [isNum, Bool.and_eq_true, decide_eq_true_eq] at hk0
  rw [tdF_eq, if_neg (by omega), isNull_neg hn] at hg
  have NUX := fun W (hW : Keep [] w W) => null_any (hf.keepF (hG.same hW) (fun _ h => h)) (ht.keepF (hG.same hW) (fun _ h => h)) v
  rw [isNull_neg hn] at NUX
  obtain ⟨aS, pS, rfl, hsub⟩ := hf.cells
  obtain ⟨az, ps, al, pl, au, pu, rfl, hs, hl, hu, hn1, hn2, -, -⟩ := id ht.cells
  have hnum := num_td hk (tdPart f.sub v flex) false hn1 hn2
  generalize tdK f.kind (tdPart f.sub v flex) false t = g at *
  obtain ⟨bz, qs, bl, ql, bu, qu, rfl, -⟩ := id hg.cells
  have kw : Keep [] w (((w.alloc (.cells #[.int .i64 f.kind, .int .i64 f.frm, .int .i64 f.to, .int .i64 f.nul, .int .i64 f.tag, .int .i64 f.dfl, .int .i64 f.ofk, .slice aS f.sub.length pS] 52)).alloc (.cells #[.int .i64 t.n, .slice az t.s.length ps, .bool t.null, .slice al t.l.length pl, .slice au t.u.length pu] 26)).alloc (.cells #[.int .i64 g.n, .slice bz g.s.length qs, .bool g.null, .slice bl g.l.length ql, .slice bu g.u.length qu] 26)) := ((keep_box _).alloc _).alloc _
  have NU : Hid _ := NUX _ kw
  have NM := fun W => number_any f.kind t.n W
  rw [← hnum] at NM
  clear NUX hnum hk hg ht hf hs hl hu hsub
  have x8 : ¬ f.kind = 8 := by omega
  have x9 : ¬ f.kind = 9 := by omega
  have x7 : ¬ f.kind = 7 := by omega
  have x10 : ¬ f.kind = 10 := by omega
  have x11 : ¬ f.kind = 11 := by omega
  have hn' : ¬ 0 ≤ f.nul := by omega
  clear hk0 hn
  go_enter Tryd.func35, Tryd.ntmps35
  go_wp2_with (go_at_call 55; go_loud (refine Calls.mono NU.out ?_; rintro e w1 ⟨rfl, k1⟩; obtain ⟨hbF, hbT, hbG⟩ := threeBoxes k1; have K1 : Keep [] w w1 := kw.trans k1; have f0 := cellOf hbF 0 _ rfl; have f1 := cellOf hbF 1 _ rfl; have f2 := cellOf hbF 2 _ rfl; have f3 := cellOf hbF 3 _ rfl; have f4 := cellOf hbF 4 _ rfl; have f5 := cellOf hbF 5 _ rfl; have f6 := cellOf hbF 6 _ rfl; have f7 := cellOf hbF 7 _ rfl; have t0 := cellOf hbT 0 _ rfl; have t1 := cellOf hbT 1 _ rfl; have t2 := cellOf hbT 2 _ rfl; have t3 := cellOf hbT 3 _ rfl; have t4 := cellOf hbT 4 _ rfl; have g0 := cellOf hbG 0 _ rfl; have g1 := cellOf hbG 1 _ rfl; have g2 := cellOf hbG 2 _ rfl; have g3 := cellOf hbG 3 _ rfl; have g4 := cellOf hbG 4 _ rfl))
  have hS := And.intro g0 (And.intro f0 t0)
  go_region_held3 (fun w' => w'.cell? ⟨w.heap.size + 1 + 1, 0, none⟩ = some (.int .i64 g.n) ∧ w'.cell? ⟨w.heap.size, 0, none⟩ = some (.int .i64 f.kind) ∧ w'.cell? ⟨w.heap.size + 1, 0, none⟩ = some (.int .i64 t.n)) (exact hS) (first
    | (go_at_call 27; refine (NM _).mono ?_; rintro e wy ⟨rfl, rfl⟩))
  go_wp2
  go_ret
  exact ⟨by simp, K1.drew⟩
set_option maxHeartbeats 4000000 in
set_option maxRecDepth 100000 in
theorem told_text (hk : f.kind = 8) : FieldTold f v flex := by
  intro G G' t cf c cg w hf ht hg hG hG'
  rw [tdF_eq, if_neg (by omega)] at hg
  have NUX := fun W (hW : Keep [] w W) => null_any (hf.keepF (hG.same hW) (fun _ h => h)) (ht.keepF (hG.same hW) (fun _ h => h)) v
  obtain ⟨aS, pS, rfl, hsub⟩ := hf.cells
  obtain ⟨az, ps, al, pl, au, pu, rfl, hs, hl, hu, hn1, hn2, hn3, -⟩ := id ht.cells
  have hg1 : (tdK f.kind (tdPart f.sub v flex) (f.isNull v t) t).null = f.isNull v t ∧ (f.isNull v t = false → (tdK f.kind (tdPart f.sub v flex) (f.isNull v t) t).s = whole t.s) := by
    rw [hk]
    cases f.isNull v t <;> simp [tdK, nstrT, T.null, T.s]
  obtain ⟨hg2, hg3⟩ := hg1
  generalize tdK f.kind (tdPart f.sub v flex) (f.isNull v t) t = g at *
  obtain ⟨bz, qs, bl, ql, bu, qu, rfl, hgs, -⟩ := id hg.cells
  rw [hg2] at *
  have NUY := NUX _ (((keep_box (A := []) (.cells #[.int .i64 f.kind, .int .i64 f.frm, .int .i64 f.to, .int .i64 f.nul, .int .i64 f.tag, .int .i64 f.dfl, .int .i64 f.ofk, .slice aS f.sub.length pS] 52)).alloc (.cells #[.int .i64 t.n, .slice az t.s.length ps, .bool t.null, .slice al t.l.length pl, .slice au t.u.length pu] 26)).alloc (.cells #[.int .i64 g.n, .slice bz g.s.length qs, .bool (f.isNull v t), .slice bl g.l.length ql, .slice bu g.u.length qu] 26))
  have kw : Keep [] w (((w.alloc (.cells #[.int .i64 f.kind, .int .i64 f.frm, .int .i64 f.to, .int .i64 f.nul, .int .i64 f.tag, .int .i64 f.dfl, .int .i64 f.ofk, .slice aS f.sub.length pS] 52)).alloc (.cells #[.int .i64 t.n, .slice az t.s.length ps, .bool t.null, .slice al t.l.length pl, .slice au t.u.length pu] 26)).alloc (.cells #[.int .i64 g.n, .slice bz g.s.length qs, .bool (f.isNull v t), .slice bl g.l.length ql, .slice bu g.u.length qu] 26)) := ((keep_box _).alloc _).alloc _
  have hwl := whole_len t.s
  have hpos := isNull_pos (f := f) (v := v) (t := t)
  generalize f.isNull v t = nu at *
  have NU : Hid _ := NUY
  have HG3 : Hid _ := hg3
  clear NUX NUY hg ht hf hl hu hsub hg2 hg3
  generalize f.kind = kd at *
  subst hk
  cases nu
  case true =>
    obtain ⟨hm, hm2⟩ := hpos rfl
    clear hpos
    go_enter Tryd.func35, Tryd.ntmps35
    go_wp2_with (go_at_call 55; go_loud (refine Calls.mono NU.out ?_; rintro e w1 ⟨rfl, k1⟩; obtain ⟨hbF, hbT, hbG⟩ := threeBoxes k1; have K1 : Keep [] w w1 := kw.trans k1; have f0 := cellOf hbF 0 _ rfl; have f1 := cellOf hbF 1 _ rfl; have f2 := cellOf hbF 2 _ rfl; have f3 := cellOf hbF 3 _ rfl; have f4 := cellOf hbF 4 _ rfl; have f5 := cellOf hbF 5 _ rfl; have f6 := cellOf hbF 6 _ rfl; have f7 := cellOf hbF 7 _ rfl; have t0 := cellOf hbT 0 _ rfl; have t1 := cellOf hbT 1 _ rfl; have t2 := cellOf hbT 2 _ rfl; have t3 := cellOf hbT 3 _ rfl; have t4 := cellOf hbT 4 _ rfl; have g0 := cellOf hbG 0 _ rfl; have g1 := cellOf hbG 1 _ rfl; have g2 := cellOf hbG 2 _ rfl; have g3 := cellOf hbG 3 _ rfl; have g4 := cellOf hbG 4 _ rfl))
    go_ret
    exact ⟨rfl, K1⟩
  by_cases hm : 0 ≤ f.nul <;> by_cases hm2 : f.nul ≤ v
  all_goals clear hpos
  all_goals go_enter Tryd.func35, Tryd.ntmps35
  all_goals go_wp2_with (go_at_call 55; go_loud (refine Calls.mono NU.out ?_; rintro e w1 ⟨rfl, k1⟩; obtain ⟨hbF, hbT, hbG⟩ := threeBoxes k1; have K1 : Keep [] w w1 := kw.trans k1; have f0 := cellOf hbF 0 _ rfl; have f1 := cellOf hbF 1 _ rfl; have f2 := cellOf hbF 2 _ rfl; have f3 := cellOf hbF 3 _ rfl; have f4 := cellOf hbF 4 _ rfl; have f5 := cellOf hbF 5 _ rfl; have f6 := cellOf hbF 6 _ rfl; have f7 := cellOf hbF 7 _ rfl; have t0 := cellOf hbT 0 _ rfl; have t1 := cellOf hbT 1 _ rfl; have t2 := cellOf hbT 2 _ rfl; have t3 := cellOf hbT 3 _ rfl; have t4 := cellOf hbT 4 _ rfl; have g0 := cellOf hbG 0 _ rfl; have g1 := cellOf hbG 1 _ rfl; have g2 := cellOf hbG 2 _ rfl; have g3 := cellOf hbG 3 _ rfl; have g4 := cellOf hbG 4 _ rfl))
  all_goals (
    have hS := And.intro g1 t1
    go_region_held3 (fun w' => w'.cell? ⟨w.heap.size + 1 + 1, 1, none⟩ = some (.slice bz g.s.length qs) ∧ w'.cell? ⟨w.heap.size + 1, 1, none⟩ = some (.slice az t.s.length ps)) (first | exact hS | exact hS2) (first
      | (go_at_call 39; go_loud (refine (whole_any (hs.keepF (hG.same K1.drew) (fun _ h => h)) (by omega)).mono ?_; rintro e wy ⟨d, rfl, hd, rfl⟩; obtain ⟨ad, pd, rfl⟩ := RS.shape hd))
      | (go_at_call 38; go_loud (refine (same_any (hgs.keepF (hG'.same K1.drew) (fun _ h => h)) hd (by rw [HG3.out (by trivial)]; omega) (by omega)).mono ?_; rintro e wz ⟨rfl, kz⟩; rw [show (g.s == whole t.s) = true from (by rw [HG3.out (by trivial)]; exact beq_self_eq_true _)]; have hS2 := And.intro (((Keep.refl [] w1).drew.trans kz).cs hS.1) (((Keep.refl [] w1).drew.trans kz).cs hS.2))))
    go_wp2
    go_ret
    exact ⟨rfl, K1.drew.trans kz⟩)
set_option maxHeartbeats 4000000 in
set_option maxRecDepth 100000 in
theorem told_oct (hk : f.kind = 9) : FieldTold f v flex := by
  intro G G' t cf c cg w hf ht hg hG hG'
  rw [tdF_eq, if_neg (by omega)] at hg
  have NUX := fun W (hW : Keep [] w W) => null_any (hf.keepF (hG.same hW) (fun _ h => h)) (ht.keepF (hG.same hW) (fun _ h => h)) v
  obtain ⟨aS, pS, rfl, hsub⟩ := hf.cells
  obtain ⟨az, ps, al, pl, au, pu, rfl, hs, hl, hu, hn1, hn2, hn3, -⟩ := id ht.cells
  have hg1 : (tdK f.kind (tdPart f.sub v flex) (f.isNull v t) t).null = f.isNull v t ∧ (f.isNull v t = false → (tdK f.kind (tdPart f.sub v flex) (f.isNull v t) t).s = whole t.s) := by
    rw [hk]
    cases f.isNull v t <;> simp [tdK, octT, T.null, T.s]
  obtain ⟨hg2, hg3⟩ := hg1
  generalize tdK f.kind (tdPart f.sub v flex) (f.isNull v t) t = g at *
  obtain ⟨bz, qs, bl, ql, bu, qu, rfl, hgs, -⟩ := id hg.cells
  rw [hg2] at *
  have NUY := NUX _ (((keep_box (A := []) (.cells #[.int .i64 f.kind, .int .i64 f.frm, .int .i64 f.to, .int .i64 f.nul, .int .i64 f.tag, .int .i64 f.dfl, .int .i64 f.ofk, .slice aS f.sub.length pS] 52)).alloc (.cells #[.int .i64 t.n, .slice az t.s.length ps, .bool t.null, .slice al t.l.length pl, .slice au t.u.length pu] 26)).alloc (.cells #[.int .i64 g.n, .slice bz g.s.length qs, .bool (f.isNull v t), .slice bl g.l.length ql, .slice bu g.u.length qu] 26))
  have kw : Keep [] w (((w.alloc (.cells #[.int .i64 f.kind, .int .i64 f.frm, .int .i64 f.to, .int .i64 f.nul, .int .i64 f.tag, .int .i64 f.dfl, .int .i64 f.ofk, .slice aS f.sub.length pS] 52)).alloc (.cells #[.int .i64 t.n, .slice az t.s.length ps, .bool t.null, .slice al t.l.length pl, .slice au t.u.length pu] 26)).alloc (.cells #[.int .i64 g.n, .slice bz g.s.length qs, .bool (f.isNull v t), .slice bl g.l.length ql, .slice bu g.u.length qu] 26)) := ((keep_box _).alloc _).alloc _
  have hwl := whole_len t.s
  have hpos := isNull_pos (f := f) (v := v) (t := t)
  generalize f.isNull v t = nu at *
  have NU : Hid _ := NUY
  have HG3 : Hid _ := hg3
  clear NUX NUY hg ht hf hl hu hsub hg2 hg3
  generalize f.kind = kd at *
  subst hk
  cases nu
  case true =>
    obtain ⟨hm, hm2⟩ := hpos rfl
    clear hpos
    go_enter Tryd.func35, Tryd.ntmps35
    go_wp2_with (go_at_call 55; go_loud (refine Calls.mono NU.out ?_; rintro e w1 ⟨rfl, k1⟩; obtain ⟨hbF, hbT, hbG⟩ := threeBoxes k1; have K1 : Keep [] w w1 := kw.trans k1; have f0 := cellOf hbF 0 _ rfl; have f1 := cellOf hbF 1 _ rfl; have f2 := cellOf hbF 2 _ rfl; have f3 := cellOf hbF 3 _ rfl; have f4 := cellOf hbF 4 _ rfl; have f5 := cellOf hbF 5 _ rfl; have f6 := cellOf hbF 6 _ rfl; have f7 := cellOf hbF 7 _ rfl; have t0 := cellOf hbT 0 _ rfl; have t1 := cellOf hbT 1 _ rfl; have t2 := cellOf hbT 2 _ rfl; have t3 := cellOf hbT 3 _ rfl; have t4 := cellOf hbT 4 _ rfl; have g0 := cellOf hbG 0 _ rfl; have g1 := cellOf hbG 1 _ rfl; have g2 := cellOf hbG 2 _ rfl; have g3 := cellOf hbG 3 _ rfl; have g4 := cellOf hbG 4 _ rfl))
    go_ret
    exact ⟨rfl, K1⟩
  by_cases hm : 0 ≤ f.nul <;> by_cases hm2 : f.nul ≤ v
  all_goals clear hpos
  all_goals go_enter Tryd.func35, Tryd.ntmps35
  all_goals go_wp2_with (go_at_call 55; go_loud (refine Calls.mono NU.out ?_; rintro e w1 ⟨rfl, k1⟩; obtain ⟨hbF, hbT, hbG⟩ := threeBoxes k1; have K1 : Keep [] w w1 := kw.trans k1; have f0 := cellOf hbF 0 _ rfl; have f1 := cellOf hbF 1 _ rfl; have f2 := cellOf hbF 2 _ rfl; have f3 := cellOf hbF 3 _ rfl; have f4 := cellOf hbF 4 _ rfl; have f5 := cellOf hbF 5 _ rfl; have f6 := cellOf hbF 6 _ rfl; have f7 := cellOf hbF 7 _ rfl; have t0 := cellOf hbT 0 _ rfl; have t1 := cellOf hbT 1 _ rfl; have t2 := cellOf hbT 2 _ rfl; have t3 := cellOf hbT 3 _ rfl; have t4 := cellOf hbT 4 _ rfl; have g0 := cellOf hbG 0 _ rfl; have g1 := cellOf hbG 1 _ rfl; have g2 := cellOf hbG 2 _ rfl; have g3 := cellOf hbG 3 _ rfl; have g4 := cellOf hbG 4 _ rfl))
  all_goals (
    have hS := And.intro g1 t1
    go_region_held3 (fun w' => w'.cell? ⟨w.heap.size + 1 + 1, 1, none⟩ = some (.slice bz g.s.length qs) ∧ w'.cell? ⟨w.heap.size + 1, 1, none⟩ = some (.slice az t.s.length ps)) (first | exact hS | exact hS2) (first
      | (go_at_call 39; go_loud (refine (whole_any (hs.keepF (hG.same K1.drew) (fun _ h => h)) (by omega)).mono ?_; rintro e wy ⟨d, rfl, hd, rfl⟩; obtain ⟨ad, pd, rfl⟩ := RS.shape hd))
      | (go_at_call 38; go_loud (refine (same_any (hgs.keepF (hG'.same K1.drew) (fun _ h => h)) hd (by rw [HG3.out (by trivial)]; omega) (by omega)).mono ?_; rintro e wz ⟨rfl, kz⟩; rw [show (g.s == whole t.s) = true from (by rw [HG3.out (by trivial)]; exact beq_self_eq_true _)]; have hS2 := And.intro (((Keep.refl [] w1).drew.trans kz).cs hS.1) (((Keep.refl [] w1).drew.trans kz).cs hS.2))))
    go_wp2
    go_ret
    exact ⟨rfl, K1.drew.trans kz⟩)
set_option maxHeartbeats 4000000 in
set_option maxRecDepth 100000 in
theorem told_part (hk : f.kind = 10) (hn : f.nul < 0) (hT : ToldSaid f.sub v flex) : FieldTold f v flex := by
  intro G G' t cf c cg w hf ht hg hG hG'
  rw [tdF_eq, if_neg (by omega), isNull_neg hn, hk] at hg
  have NUX := fun W (hW : Keep [] w W) => null_any (hf.keepF (hG.same hW) (fun _ h => h)) (ht.keepF (hG.same hW) (fun _ h => h)) v
  rw [isNull_neg hn] at NUX
  obtain ⟨aS, pS, rfl, hsub⟩ := hf.cells
  have TS := fun W (hW : Keep [] w W) => hT G G' _ t c cg W (hsub.keepF (hG.same hW) (fun _ h => h)) (ht.keepF (hG.same hW) (fun _ h => h)) (HT.keepF hg (hG'.same hW) (fun _ h => h)) (hG.keep hW) (hG'.keep hW)
  obtain ⟨az, ps, al, pl, au, pu, rfl, -⟩ := id ht.cells
  have hgn : (tdK 10 (tdPart f.sub v flex) false t).null = false := rfl
  generalize tdK 10 (tdPart f.sub v flex) false t = g at *
  obtain ⟨bz, qs, bl, ql, bu, qu, rfl, -⟩ := id hg.cells
  rw [hgn] at *
  have kw : Keep [] w (((w.alloc (.cells #[.int .i64 f.kind, .int .i64 f.frm, .int .i64 f.to, .int .i64 f.nul, .int .i64 f.tag, .int .i64 f.dfl, .int .i64 f.ofk, .slice aS f.sub.length pS] 52)).alloc (.cells #[.int .i64 t.n, .slice az t.s.length ps, .bool t.null, .slice al t.l.length pl, .slice au t.u.length pu] 26)).alloc (.cells #[.int .i64 g.n, .slice bz g.s.length qs, .bool false, .slice bl g.l.length ql, .slice bu g.u.length qu] 26)) := ((keep_box _).alloc _).alloc _
  have NU : Hid _ := NUX _ kw
  clear NUX hg ht hf hsub hgn hT
  generalize f.kind = kd at *
  subst hk
  have hn' : ¬ 0 ≤ f.nul := by omega
  clear hn
  go_enter Tryd.func35, Tryd.ntmps35
  go_wp2_with (first
    | (go_at_call 55; go_loud (refine Calls.mono NU.out ?_; rintro e w1 ⟨rfl, k1⟩; obtain ⟨hbF, hbT, hbG⟩ := threeBoxes k1; have K1 : Keep [] w w1 := kw.trans k1; have f0 := cellOf hbF 0 _ rfl; have f1 := cellOf hbF 1 _ rfl; have f2 := cellOf hbF 2 _ rfl; have f3 := cellOf hbF 3 _ rfl; have f4 := cellOf hbF 4 _ rfl; have f5 := cellOf hbF 5 _ rfl; have f6 := cellOf hbF 6 _ rfl; have f7 := cellOf hbF 7 _ rfl; have t0 := cellOf hbT 0 _ rfl; have t1 := cellOf hbT 1 _ rfl; have t2 := cellOf hbT 2 _ rfl; have t3 := cellOf hbT 3 _ rfl; have t4 := cellOf hbT 4 _ rfl; have g0 := cellOf hbG 0 _ rfl; have g1 := cellOf hbG 1 _ rfl; have g2 := cellOf hbG 2 _ rfl; have g3 := cellOf hbG 3 _ rfl; have g4 := cellOf hbG 4 _ rfl))
    | (go_at_call 16; go_loud (refine (TS _ K1).mono ?_; rintro e wz ⟨rfl, kz⟩)))
  go_ret
  exact ⟨rfl, K1.trans kz⟩
set_option maxHeartbeats 4000000 in
set_option maxRecDepth 100000 in
theorem told_uuid (hk : f.kind = 7) (hn : f.nul < 0) : FieldTold f v flex := by
  intro G G' t cf c cg w hf ht hg hG hG'
  rw [tdF_eq, if_neg (by omega), isNull_neg hn, hk] at hg
  have NUX := fun W (hW : Keep [] w W) => null_any (hf.keepF (hG.same hW) (fun _ h => h)) (ht.keepF (hG.same hW) (fun _ h => h)) v
  rw [isNull_neg hn] at NUX
  obtain ⟨aS, pS, rfl, hsub⟩ := hf.cells
  obtain ⟨az, ps, al, pl, au, pu, rfl, hs, -⟩ := id ht.cells
  have hgs0 : (tdK 7 (tdPart f.sub v flex) false t).s = pad16 t.s := rfl
  generalize tdK 7 (tdPart f.sub v flex) false t = g at *
  obtain ⟨bz, qs, bl, ql, bu, qu, rfl, hgs, -⟩ := id hg.cells
  have kw : Keep [] w (((w.alloc (.cells #[.int .i64 f.kind, .int .i64 f.frm, .int .i64 f.to, .int .i64 f.nul, .int .i64 f.tag, .int .i64 f.dfl, .int .i64 f.ofk, .slice aS f.sub.length pS] 52)).alloc (.cells #[.int .i64 t.n, .slice az t.s.length ps, .bool t.null, .slice al t.l.length pl, .slice au t.u.length pu] 26)).alloc (.cells #[.int .i64 g.n, .slice bz g.s.length qs, .bool g.null, .slice bl g.l.length ql, .slice bu g.u.length qu] 26)) := ((keep_box _).alloc _).alloc _
  have NU : Hid _ := NUX _ kw
  have HG3 : Hid _ := hgs0
  clear NUX hg ht hf hsub hgs0
  generalize f.kind = kd at *
  subst hk
  have hn' : ¬ 0 ≤ f.nul := by omega
  have hmk := make16
  clear hn
  go_enter Tryd.func35, Tryd.ntmps35
  go_wp2_with (first
    | (go_at_call 55; go_loud (refine Calls.mono NU.out ?_; rintro e w1 ⟨rfl, k1⟩; obtain ⟨hbF, hbT, hbG⟩ := threeBoxes k1; have K1 : Keep [] w w1 := kw.trans k1; have f0 := cellOf hbF 0 _ rfl; have f1 := cellOf hbF 1 _ rfl; have f2 := cellOf hbF 2 _ rfl; have f3 := cellOf hbF 3 _ rfl; have f4 := cellOf hbF 4 _ rfl; have f5 := cellOf hbF 5 _ rfl; have f6 := cellOf hbF 6 _ rfl; have f7 := cellOf hbF 7 _ rfl; have t0 := cellOf hbT 0 _ rfl; have t1 := cellOf hbT 1 _ rfl; have t2 := cellOf hbT 2 _ rfl; have t3 := cellOf hbT 3 _ rfl; have t4 := cellOf hbT 4 _ rfl; have g0 := cellOf hbG 0 _ rfl; have g1 := cellOf hbG 1 _ rfl; have g2 := cellOf hbG 2 _ rfl; have g3 := cellOf hbG 3 _ rfl; have g4 := cellOf hbG 4 _ rfl; have t1z := (keep_box (A := []) (.cells #[.int .u8 0, .int .u8 0, .int .u8 0, .int .u8 0, .int .u8 0, .int .u8 0, .int .u8 0, .int .u8 0, .int .u8 0, .int .u8 0, .int .u8 0, .int .u8 0, .int .u8 0, .int .u8 0, .int .u8 0, .int .u8 0] 5)).cs t1; have g1z := (keep_box (A := []) (.cells #[.int .u8 0, .int .u8 0, .int .u8 0, .int .u8 0, .int .u8 0, .int .u8 0, .int .u8 0, .int .u8 0, .int .u8 0, .int .u8 0, .int .u8 0, .int .u8 0, .int .u8 0, .int .u8 0, .int .u8 0, .int .u8 0] 5)).cs g1))
    | ((with_reducible refine wpList_copy_splice rfl (.tmp 62) (.tmp 64) 22 22 rfl 5 Tryd.underlying22 (by kernel_rfl) _ _ _ _ _ _ rfl rfl w1.heap.size 0 (List.replicate 16 (.int .u8 0)) 5 ?hg ((t.s.take 16).map bv) ?hn ?hpos ?hfit ?h1 w1.heap.size w1 ?hb ?hBg ?_); go_loud ((case hg => exact heap_alloc_new _ _); (case hn => simp [Nat.min_comm]); (case hpos => (intro hp; have hp2 : 0 < t.s.length := (by simp at hp; omega); obtain ⟨ad, e, hc⟩ := copyPos (hs.keepF (hG.same (K1.alloc _)) (fun _ h => h)) hp2; exact ⟨rfl, ad, e, by first | exact hc | simpa only [List.map_take] using hc⟩)); (case hfit => (simp; omega)); (case h1 => (intro u hu; first | exact oneCell_bv _ u hu | exact oneCell_bv _ u (List.mem_of_mem_take hu))); (case hb => exact (Below.refl _ _).alloc (Nat.le_refl _) _); (case hBg => exact Nat.le_refl _); intro w' H hb; have kb := keep_of_below hb; have g1' := kb.cs g1; have h := H.out; rw [List.map_take, uuid_splice] at h; have rbz : RB w' (fun k => w1.heap.size ≤ k ∧ k < w'.heap.size) (.slice (some ⟨w1.heap.size, 0, none⟩) 16 16) (pad16 t.s) := (ob_block (Nat.le_refl _) h (by simp; omega) (by simp [maxLen]; omega)).rb; have SA := same_any (hgs.keepF (hG'.same (K1.trans kb)) (fun _ h => h)) rbz (by rw [HG3.out, pad16_length]; omega) (by rw [pad16_length]; omega); rw [show (g.s == pad16 t.s) = true from (by rw [HG3.out]; exact beq_self_eq_true _)] at SA; have HSA : Hid _ := SA; clear SA h rbz H hb))
    | (go_at_call 38; go_loud (refine Calls.mono HSA.out ?_; rintro e wz ⟨rfl, kz⟩)))
  go_ret
  exact ⟨rfl, (K1.trans kb).trans kz⟩
end
end Go.Proofs.YtdklogmmfnddiaaDoor
/-
  spec.told at what is told of a list; spec.Told.
-/
namespace Go.Proofs.YtdklogmmfnddiaaDoor
open Go.ChangeShapes Go.WideShapes Go.ChangeAt Go.RowKit

section
variable {f : F} {v : Int} {flex : Bool}
/-- a list's thing, as a field -/
def oneF (f : F) : F := .mk f.ofk f.frm f.to (-1) (-1) f.dfl f.ofk f.sub
theorem HF.one {w : World} {G : Nat → Prop} {f : F} {v : Value} (h : HFs w G v f.sub) : HF w G (oneF f) [.int .i64 f.ofk, .int .i64 f.frm, .int .i64 f.to, .int .i64 (-1), .int .i64 (-1), .int .i64 f.dfl, .int .i64 f.ofk, v] := by
  obtain ⟨cs, h1, h2, h3, h4⟩ := h
  exact .mk _ _ _ _ _ _ _ _ v cs h3 h1 h2 h4
theorem tdF_one (h : f.ofk ≠ 11) (x : T) : tdF (oneF f) v flex x = tdK f.ofk (tdPart f.sub v flex) false x := by
  rw [tdF_eq, if_neg (show ¬ (oneF f).kind = 11 from h), isNull_neg (show (oneF f).nul < 0 from by show (-1 : Int) < 0; decide)]
  rfl
set_option maxHeartbeats 4000000 in
set_option maxRecDepth 100000 in
theorem told_list (hk : f.kind = 11) (ho : f.ofk ≠ 11) (hE : FieldTold (oneF f) v flex) : FieldTold f v flex := by
  intro G G' t cf c cg w hf ht hg hG hG'
  rw [tdF_eq, if_pos hk] at hg
  have NUX := fun W (hW : Keep [] w W) => null_any (hf.keepF (hG.same hW) (fun _ h => h)) (ht.keepF (hG.same hW) (fun _ h => h)) v
  obtain ⟨aS, pS, rfl, hsub⟩ := hf.cells
  obtain ⟨az, ps, al, pl, au, pu, rfl, hs, hl, -⟩ := id ht.cells
  have hpos := isNull_pos (f := f) (v := v) (t := t)
  have hgn : 0 ≤ f.nul → (T.mk 0 [] (if f.nul < 0 then (things t.l).isEmpty else f.isNull v t) ((if f.isNull v t then [] else things t.l).map (tdK f.ofk (tdPart f.sub v flex) false)) []).null = f.isNull v t := fun h => if_neg (by omega)
  have hgl : f.isNull v t = false → (T.mk 0 [] (if f.nul < 0 then (things t.l).isEmpty else f.isNull v t) ((if f.isNull v t then [] else things t.l).map (tdK f.ofk (tdPart f.sub v flex) false)) []).l = (things t.l).map (tdK f.ofk (tdPart f.sub v flex) false) := fun h => by
    show (if f.isNull v t then [] else things t.l).map _ = _
    rw [h]
    simp
  generalize T.mk 0 [] (if f.nul < 0 then (things t.l).isEmpty else f.isNull v t) ((if f.isNull v t then [] else things t.l).map (tdK f.ofk (tdPart f.sub v flex) false)) [] = g at *
  obtain ⟨bz, qs, bl, ql, bu, qu, rfl, -, hgL, -⟩ := id hg.cells
  have NUY := NUX _ (((keep_box (A := []) (.cells #[.int .i64 f.kind, .int .i64 f.frm, .int .i64 f.to, .int .i64 f.nul, .int .i64 f.tag, .int .i64 f.dfl, .int .i64 f.ofk, .slice aS f.sub.length pS] 52)).alloc (.cells #[.int .i64 t.n, .slice az t.s.length ps, .bool t.null, .slice al t.l.length pl, .slice au t.u.length pu] 26)).alloc (.cells #[.int .i64 g.n, .slice bz g.s.length qs, .bool g.null, .slice bl g.l.length ql, .slice bu g.u.length qu] 26))
  rw [hk] at NUY
  have kw : Keep [] w (((w.alloc (.cells #[.int .i64 11, .int .i64 f.frm, .int .i64 f.to, .int .i64 f.nul, .int .i64 f.tag, .int .i64 f.dfl, .int .i64 f.ofk, .slice aS f.sub.length pS] 52)).alloc (.cells #[.int .i64 t.n, .slice az t.s.length ps, .bool t.null, .slice al t.l.length pl, .slice au t.u.length pu] 26)).alloc (.cells #[.int .i64 g.n, .slice bz g.s.length qs, .bool g.null, .slice bl g.l.length ql, .slice bu g.u.length qu] 26)) := ((keep_box _).alloc _).alloc _
  have HK : Hid _ := hk
  rw [hk]
  generalize f.isNull v t = nu at *
  generalize g.null = gn at *
  have NU : Hid _ := NUY
  clear NUX NUY hg hf hs hk
  cases nu
  case true =>
    obtain ⟨hm, hm2⟩ := hpos rfl
    obtain rfl := hgn hm
    clear hpos hgn hgl
    go_enter Tryd.func35, Tryd.ntmps35
    go_wp2_with (go_at_call 55; go_loud (refine Calls.mono NU.out ?_; rintro e w1 ⟨rfl, k1⟩; obtain ⟨hbF, hbT, hbG⟩ := threeBoxes k1; have HBG : Hid _ := hbG; have K1 : Keep [] w w1 := kw.trans k1; have f0 := cellOf hbF 0 _ rfl; have f1 := cellOf hbF 1 _ rfl; have f2 := cellOf hbF 2 _ rfl; have f3 := cellOf hbF 3 _ rfl; have f4 := cellOf hbF 4 _ rfl; have f5 := cellOf hbF 5 _ rfl; have f6 := cellOf hbF 6 _ rfl; have f7 := cellOf hbF 7 _ rfl; have t0 := cellOf hbT 0 _ rfl; have t1 := cellOf hbT 1 _ rfl; have t2 := cellOf hbT 2 _ rfl; have t3 := cellOf hbT 3 _ rfl; have t4 := cellOf hbT 4 _ rfl; have g0 := cellOf hbG 0 _ rfl; have g1 := cellOf hbG 1 _ rfl; have g2 := cellOf hbG 2 _ rfl; have g3 := cellOf hbG 3 _ rfl; have g4 := cellOf hbG 4 _ rfl))
    go_ret
    exact ⟨rfl, K1⟩
  have hgl' := hgl rfl
  have HGL : Hid _ := hgl'
  have HLN : Hid (g.l.length = (things t.l).length) := by show _ = _; rw [hgl']; simp
  have HT1 := fun W (hW : Keep [] w W) => hl.keepF (hG.same hW) (fun _ h => h)
  clear hpos hgl hgl'
  by_cases hm : 0 ≤ f.nul <;> by_cases hm2 : f.nul ≤ v
  all_goals (
    (try (have hgq := hgn (by assumption); subst hgq))
    (try clear hgn)
    go_enter Tryd.func35, Tryd.ntmps35
    go_wp2_with (first
      | (go_at_call 55; go_loud (refine Calls.mono NU.out ?_; rintro e w1 ⟨rfl, k1⟩; obtain ⟨hbF, hbT, hbG⟩ := threeBoxes k1; have HBG : Hid _ := hbG; have K1 : Keep [] w w1 := kw.trans k1; have f0 := cellOf hbF 0 _ rfl; have f1 := cellOf hbF 1 _ rfl; have f2 := cellOf hbF 2 _ rfl; have f3 := cellOf hbF 3 _ rfl; have f4 := cellOf hbF 4 _ rfl; have f5 := cellOf hbF 5 _ rfl; have f6 := cellOf hbF 6 _ rfl; have f7 := cellOf hbF 7 _ rfl; have t0 := cellOf hbT 0 _ rfl; have t1 := cellOf hbT 1 _ rfl; have t2 := cellOf hbT 2 _ rfl; have t3 := cellOf hbT 3 _ rfl; have t4 := cellOf hbT 4 _ rfl; have g0 := cellOf hbG 0 _ rfl; have g1 := cellOf hbG 1 _ rfl; have g2 := cellOf hbG 2 _ rfl; have g3 := cellOf hbG 3 _ rfl; have g4 := cellOf hbG 4 _ rfl))
      | (go_at_call 56; go_loud (refine (things_any (HT1 _ K1) ).mono ?_; rintro e wt ⟨d, rfl, hd, rfl⟩; obtain ⟨ad, pd, rfl, -⟩ := hd.shape; have hln := HLN.out; have f6z := (keep_box (A := []) (.cells #[.int .i64 11, .int .i64 f.frm, .int .i64 f.to, .int .i64 f.nul, .int .i64 f.tag, .int .i64 f.dfl, .int .i64 f.ofk, .slice aS f.sub.length pS] 52)).cs f6)))
    obtain ⟨Ws, hWs⟩ : ∃ x, x = w1.alloc (.cells #[.int .i64 f.ofk, .int .i64 f.frm, .int .i64 f.to, .int .i64 (-1), .int .i64 (-1), .int .i64 f.dfl, .int .i64 f.ofk, .slice aS f.sub.length pS] 52) := ⟨_, rfl⟩
    have hbO : Ws.heap[w1.heap.size]? = some (.cells #[.int .i64 f.ofk, .int .i64 f.frm, .int .i64 f.to, .int .i64 (-1), .int .i64 (-1), .int .i64 f.dfl, .int .i64 f.ofk, .slice aS f.sub.length pS] 52 (0, 0)) := by rw [hWs]; exact heap_alloc_new _ _
    have kS : Keep [] w1 Ws := by rw [hWs]; exact keep_box _
    rw [← hWs]
    have KS := K1.trans kS
    have hbG2 := (kS.block _ (World.heap_lt HBG.out) (by simp)).trans HBG.out
    have HBO : Hid _ := hbO
    have HBG2 : Hid _ := hbG2
    clear hWs f6z f0 f1 f2 f3 f4 f5 f6 f7 t0 t1 t2 t3 t4 g0 g1 g2 g3 g4 hbG hbG2 hbF hbT hbO hln
    go_loopw [98] (fun k wr => ∃ n : Nat, n ≤ (things t.l).length ∧ k = .int .i64 n ∧ Keep [] Ws wr) (fun k _ => (things t.l).length - (intOf k).toNat)
    case atStart => exact ⟨0, Nat.zero_le _, rfl, Keep.refl _ _⟩
    case round =>
      obtain ⟨n, hn, rfl, hkeep⟩ := hrel
      have hk := KS.trans hkeep
      have hb9 := things_len t.l
      by_cases hlt : n < (things t.l).length
      · have HLT : Hid (n < (things t.l).length) := hlt
        have hltg : n < g.l.length := by rw [HLN.out]; exact hlt
        obtain ⟨bx, ox, cx, rfl, hGx, hcx, hcellx⟩ := (hd.keepF (fun k h => (kS.trans hkeep).block k (hG.keep K1 k h) List.not_mem_nil) (fun _ h => h)).cells hlt
        obtain ⟨by_, oy, cy, rfl, hGy, hcy, hcelly⟩ := (hgL.keepF (hG'.same hk) (fun _ h => h)).cells hltg
        have hy : g.l[n] = tdF (oneF f) v flex (things t.l)[n] := by rw [tdF_one ho]; simp only [HGL.out, List.getElem_map]; rfl
        rw [hy] at hcy
        have ET := fun W (hW : Keep [] wr W) => hE G G' _ _ _ _ W (HF.one (hsub.keepF (hG.same (hk.trans hW)) (fun _ h => h))) (hcx.keepF ((hG.keep hk).same hW) (fun _ h => h)) (hcy.keepF ((hG'.keep hk).same hW) (fun _ h => h)) (hG.keep (hk.trans hW)) (hG'.keep (hk.trans hW))
        generalize tdF (oneF f) v flex (things t.l)[n] = y at *
        obtain ⟨az3, ps3, al3, pl3, au3, pu3, rfl, -⟩ := hcx.cells
        obtain ⟨az4, ps4, al4, pl4, au4, pu4, rfl, -⟩ := hcy.cells
        have c0 : wr.cell? ⟨bx, ox + n * 5, none⟩ = some _ := hcellx 0 (by simp)
        have d0 : wr.cell? ⟨by_, oy + n * 5, none⟩ = some _ := hcelly 0 (by simp)
        have c1 : wr.cell? ⟨bx, ox + n * 5 + 1, none⟩ = some _ := hcellx 1 (by simp)
        have d1 : wr.cell? ⟨by_, oy + n * 5 + 1, none⟩ = some _ := hcelly 1 (by simp)
        have c2 : wr.cell? ⟨bx, ox + n * 5 + 2, none⟩ = some _ := hcellx 2 (by simp)
        have d2 : wr.cell? ⟨by_, oy + n * 5 + 2, none⟩ = some _ := hcelly 2 (by simp)
        have c3 : wr.cell? ⟨bx, ox + n * 5 + 3, none⟩ = some _ := hcellx 3 (by simp)
        have d3 : wr.cell? ⟨by_, oy + n * 5 + 3, none⟩ = some _ := hcelly 3 (by simp)
        have c4 : wr.cell? ⟨bx, ox + n * 5 + 4, none⟩ = some _ := hcellx 4 (by simp)
        have d4 : wr.cell? ⟨by_, oy + n * 5 + 4, none⟩ = some _ := hcelly 4 (by simp)
        simp only [List.getElem_cons_zero, List.getElem_cons_succ] at c0 c1 c2 c3 c4 d0 d1 d2 d3 d4
        clear hcellx hcelly hcx hcy hy
        generalize (things t.l)[n] = x at *
        have hO := (hkeep.block _ (World.heap_lt HBO.out) (by simp)).trans HBO.out
        have hGb := (hkeep.block _ (World.heap_lt HBG2.out) (by simp)).trans HBG2.out
        obtain ⟨o0, o1, o2, o3, o4, o5, o6, o7⟩ : wr.cell? ⟨w1.heap.size, 0, none⟩ = some (.int .i64 f.ofk) ∧ wr.cell? ⟨w1.heap.size, 1, none⟩ = some (.int .i64 f.frm) ∧ wr.cell? ⟨w1.heap.size, 2, none⟩ = some (.int .i64 f.to) ∧ wr.cell? ⟨w1.heap.size, 3, none⟩ = some (.int .i64 (-1)) ∧ wr.cell? ⟨w1.heap.size, 4, none⟩ = some (.int .i64 (-1)) ∧ wr.cell? ⟨w1.heap.size, 5, none⟩ = some (.int .i64 f.dfl) ∧ wr.cell? ⟨w1.heap.size, 6, none⟩ = some (.int .i64 f.ofk) ∧ wr.cell? ⟨w1.heap.size, 7, none⟩ = some (.slice aS f.sub.length pS) := ⟨cellOf hO 0 _ rfl, cellOf hO 1 _ rfl, cellOf hO 2 _ rfl, cellOf hO 3 _ rfl, cellOf hO 4 _ rfl, cellOf hO 5 _ rfl, cellOf hO 6 _ rfl, cellOf hO 7 _ rfl⟩
        have g3n : wr.cell? ⟨w.heap.size + 1 + 1, 3, none⟩ = some (.slice (some ⟨by_, oy, none⟩) g.l.length ql) := cellOf hGb 3 _ rfl
        have hlnn := HLN.out
        rw [hlnn] at g3n
        clear hlnn
        clear hO hGb
        have hS := And.intro (o0) (And.intro (o1) (And.intro (o2) (And.intro (o3) (And.intro (o4) (And.intro (o5) (And.intro (o6) (And.intro (o7) (And.intro (g3n) (And.intro (c0) (And.intro (c1) (And.intro (c2) (And.intro (c3) (And.intro (c4) (And.intro (d0) (And.intro (d1) (And.intro (d2) (And.intro (d3) (d4))))))))))))))))))
        go_wp2_with fail
        go_region_held3 (fun w' => w'.cell? ⟨w1.heap.size, 0, none⟩ = some (.int .i64 f.ofk) ∧ w'.cell? ⟨w1.heap.size, 1, none⟩ = some (.int .i64 f.frm) ∧ w'.cell? ⟨w1.heap.size, 2, none⟩ = some (.int .i64 f.to) ∧ w'.cell? ⟨w1.heap.size, 3, none⟩ = some (.int .i64 (-1)) ∧ w'.cell? ⟨w1.heap.size, 4, none⟩ = some (.int .i64 (-1)) ∧ w'.cell? ⟨w1.heap.size, 5, none⟩ = some (.int .i64 f.dfl) ∧ w'.cell? ⟨w1.heap.size, 6, none⟩ = some (.int .i64 f.ofk) ∧ w'.cell? ⟨w1.heap.size, 7, none⟩ = some (.slice aS f.sub.length pS) ∧ w'.cell? ⟨w.heap.size + 1 + 1, 3, none⟩ = some (.slice (some ⟨by_, oy, none⟩) (things t.l).length ql) ∧ w'.cell? ⟨bx, ox + n * 5, none⟩ = some (.int .i64 x.n) ∧ w'.cell? ⟨bx, ox + n * 5 + 1, none⟩ = some (.slice az3 x.s.length ps3) ∧ w'.cell? ⟨bx, ox + n * 5 + 2, none⟩ = some (.bool x.null) ∧ w'.cell? ⟨bx, ox + n * 5 + 3, none⟩ = some (.slice al3 x.l.length pl3) ∧ w'.cell? ⟨bx, ox + n * 5 + 4, none⟩ = some (.slice au3 x.u.length pu3) ∧ w'.cell? ⟨by_, oy + n * 5, none⟩ = some (.int .i64 y.n) ∧ w'.cell? ⟨by_, oy + n * 5 + 1, none⟩ = some (.slice az4 y.s.length ps4) ∧ w'.cell? ⟨by_, oy + n * 5 + 2, none⟩ = some (.bool y.null) ∧ w'.cell? ⟨by_, oy + n * 5 + 3, none⟩ = some (.slice al4 y.l.length pl4) ∧ w'.cell? ⟨by_, oy + n * 5 + 4, none⟩ = some (.slice au4 y.u.length pu4)) (exact hS) (first
          | (go_at_call 35; go_loud (refine (ET _ (Keep.refl _ _).drew).mono ?_; rintro e w2 ⟨rfl, hk2⟩; have kx : Keep [] wr w2 := (Keep.refl _ _).drew.trans hk2; have hS := And.intro (kx.cs o0) (And.intro (kx.cs o1) (And.intro (kx.cs o2) (And.intro (kx.cs o3) (And.intro (kx.cs o4) (And.intro (kx.cs o5) (And.intro (kx.cs o6) (And.intro (kx.cs o7) (And.intro (kx.cs g3n) (And.intro (kx.cs c0) (And.intro (kx.cs c1) (And.intro (kx.cs c2) (And.intro (kx.cs c3) (And.intro (kx.cs c4) (And.intro (kx.cs d0) (And.intro (kx.cs d1) (And.intro (kx.cs d2) (And.intro (kx.cs d3) (kx.cs d4)))))))))))))))))))))
        go_wp2
        go_roundw
        case rel => exact ⟨n + 1, HLT.out, by go_num, hkeep.trans kx⟩
        case measure => have h9 := HLT.out; simp [intOf]; omega
      · go_wp2
        go_ret
        exact ⟨rfl, hk⟩)
end
end Go.Proofs.YtdklogmmfnddiaaDoor
/-
  spec.Told at what is told of a part without tagged fields.
-/
namespace Go.Proofs.YtdklogmmfnddiaaDoor
open Go.ChangeShapes Go.WideShapes Go.ChangeAt Go.RowKit

theorem tdFs_get : ∀ (fs : List F) (i : Nat) (v : Int) (flex : Bool) (t : T) (n : Nat) (h : n < fs.length) (h2 : n < (tdFs fs i v flex t).length), (tdFs fs i v flex t)[n] = if fs[n].has v then tdF fs[n] v flex (atT t (i + n)) else dflF fs[n]
  | [], _, _, _, _, _, h, _ => by simp at h
  | f :: r, i, v, flex, t, 0, _, _ => by simp [tdFs]
  | f :: r, i, v, flex, t, n + 1, h, h2 => by
    have := tdFs_get r (i + 1) v flex t n (by simpa using h) (by simpa [tdFs] using h2)
    simp only [tdFs, List.getElem_cons_succ, this]
    rw [show i + 1 + n = i + (n + 1) by omega]
theorem untagged_mem : ∀ {fs : List F}, untagged fs = true → ∀ f ∈ fs, f.tag < 0
  | [], _, f, h => by cases h
  | g :: r, hu, f, h => by
    simp only [untagged, Bool.and_eq_true, decide_eq_true_eq] at hu
    rcases List.mem_cons.1 h with e | e
    · rw [e]; exact hu.1
    · exact untagged_mem hu.2 f e
/-- one field, one tree, each in a block of its own -/
theorem one_fields {W : World} {G : Nat → Prop} {k : Nat} {f : F} {aS : Option Addr} {pS : Nat} (hb : W.heap[k]? = some (.cells #[.int .i64 f.kind, .int .i64 f.frm, .int .i64 f.to, .int .i64 f.nul, .int .i64 f.tag, .int .i64 f.dfl, .int .i64 f.ofk, .slice aS f.sub.length pS] 52 (0, 0))) (hs : HFs W G (.slice aS f.sub.length pS) f.sub) : HFs W (fun i => G i ∨ i = k) (.slice (some ⟨k, 0, none⟩) 1 1) [f] := by
  obtain ⟨cs, h1, h2, h3, h4⟩ := hs.keepF (G := fun i => G i ∨ i = k) (fun _ _ => rfl) (fun _ h => .inl h)
  refine ⟨[[.int .i64 f.kind, .int .i64 f.frm, .int .i64 f.to, .int .i64 f.nul, .int .i64 f.tag, .int .i64 f.dfl, .int .i64 f.ofk, .slice aS f.sub.length pS]], rfl, fun i a b => ?_, by simp, _, _, rfl, Nat.le_refl _, (fun h => by cases h), fun a ha => ?_⟩
  · obtain rfl : i = 0 := by simpa using a
    cases f
    exact .mk _ _ _ _ _ _ _ _ _ cs h3 h1 h2 h4
  · cases ha
    refine ⟨fun _ => rfl, fun i hi => ⟨.inr rfl, ?_⟩⟩
    simp only [Nat.zero_add]
    exact cellOf hb i _ (by rw [← List.getElem?_eq_getElem hi]; simp)
theorem one_tree {W : World} {G : Nat → Prop} {k : Nat} {y : T} {c : List Value} (hb : W.heap[k]? = some (.cells c.toArray 26 (0, 0))) (hy : HT W G y c) : HT W (fun i => G i ∨ i = k) (.mk 0 [] false [y] []) [.int .i64 0, .slice none 0 0, .bool false, .slice (some ⟨k, 0, none⟩) 1 1, .slice none 0 0] := by
  have h := hy.keepF (G := fun i => G i ∨ i = k) (fun _ _ => rfl) (fun _ h => .inl h)
  refine .mk 0 [] false [y] [] _ _ _ [c] (RB.nil _ _) (by simp) rfl (fun i a b => ?_) ⟨_, _, rfl, Nat.le_refl _, (fun h => by cases h), fun a ha => ?_⟩ (HGs.nil _ _)
  · obtain rfl : i = 0 := by simpa using a
    exact h
  · cases ha
    refine ⟨fun _ => rfl, fun i hi => ⟨.inr rfl, ?_⟩⟩
    simp only [Nat.zero_add]
    have hi' : i < c.length := by simpa using hi
    exact cellOf hb i _ (by simp [List.getElem?_eq_getElem hi'])
theorem one_usual {f : F} {y : T} (h : y = dflF f) : ∀ i (hi : i < [f].length), atT (.mk 0 [] false [y] []) i = dflF [f][i] := fun i hi => by
  obtain rfl : i = 0 := by simpa using hi
  exact h
set_option maxHeartbeats 4000000 in
set_option maxRecDepth 100000 in
theorem told_fields {fs : List F} {v : Int} {flex : Bool} (hun : untagged fs = true) (hFT : ∀ f ∈ fs, FieldTold f v flex) (hUS : ∀ f ∈ fs, UsualSaid [f]) : ToldSaid fs v flex := by
  intro G G' vs t c cg w hF ht hg hG hG'
  have hFb := hF.bd
  obtain ⟨aF, pF, rfl, hpF⟩ := hF.shape
  obtain ⟨az, ps, al, pl, au, pu, rfl, hs, hl, hu, hn1, hn2, hn3, hn4⟩ := ht.cells
  have hgl : (tdPart fs v flex t).l = tdFs fs 0 v flex t := rfl
  have hgu : (tdPart fs v flex t).u = if flex then tdU fs t.u else [] := rfl
  generalize tdPart fs v flex t = g at *
  obtain ⟨bz, qs, bl, ql, bu, qu, rfl, -, hgL, hgU, -⟩ := hg.cells
  have AT := fun W (hW : Keep [] w W) i => at_any (ht.keepF (hG.same hW) (fun _ h => h)) (hG.keep hW) i
  have hln : g.l.length = fs.length := by rw [hgl]; exact tdFs_len _ _ _ _ _
  have HGL : Hid _ := hgl
  have HGU : Hid _ := hgu
  have HLN : Hid _ := hln
  have hne : ((g.l.length : Int) != (fs.length : Int)) = false := by rw [hln]; simp
  clear hs hl hg hgl hgu hln
  go_enter Tryd.func16, Tryd.ntmps16
  go_wp2_with fail
  clear hne
  go_loopw [25] (fun k wr => ∃ n : Nat, n ≤ fs.length ∧ k = .int .i64 n ∧ Keep [] ((w.alloc (.cells (tcells t az ps al pl au pu) 26)).alloc (.cells (tcells g bz qs bl ql bu qu) 26)) wr) (fun k _ => fs.length - (intOf k).toNat)
  case atStart => exact ⟨0, Nat.zero_le _, rfl, Keep.refl _ _⟩
  case round =>
    obtain ⟨n, hn, rfl, hkeep⟩ := hrel
    have K1 : Keep [] w ((w.alloc (.cells (tcells t az ps al pl au pu) 26)).alloc (.cells (tcells g bz qs bl ql bu qu) 26)) := (keep_box _).alloc _
    have hk := K1.trans hkeep
    obtain ⟨hbT, hbG⟩ := twoBoxes hkeep
    have HBT : Hid _ := hbT
    have HBG : Hid _ := hbG
    have hGr := hG.keep hk
    have hsz := hk.size
    have lT := World.heap_lt hbT
    have lG := World.heap_lt hbG
    clear hbT hbG
    by_cases hlt : n < fs.length
    · have hltg : n < g.l.length := by rw [HLN.out]; exact hlt
      have hftn := hFT fs[n] (List.getElem_mem hlt)
      have husn := hUS fs[n] (List.getElem_mem hlt)
      have htag := untagged_mem hun fs[n] (List.getElem_mem hlt)
      have hy : g.l[n] = if fs[n].has v then tdF fs[n] v flex (atT t n) else dflF fs[n] := by
        have h := tdFs_get fs 0 v flex t n hlt (by rw [tdFs_len]; exact hlt)
        rw [Nat.zero_add] at h
        rw [← h]
        simp only [HGL.out]
      obtain ⟨b, o, cp, cf, e, hcp, hGb, hc, hcell⟩ := (hF.keepF (hG.same hk) (fun _ h => h)).elem hlt
      cases e
      obtain ⟨aS, pS, rfl, hsub⟩ := hc.cells
      have hblt : b < wr.heap.size := hGr b hGb
      have hbw : b < w.heap.size := hG b hGb
      have c0 : wr.cell? ⟨b, o + n * 8, none⟩ = some _ := hcell 0 (by simp)
      have c1 : wr.cell? ⟨b, o + n * 8 + 1, none⟩ = some _ := hcell 1 (by simp)
      have c2 : wr.cell? ⟨b, o + n * 8 + 2, none⟩ = some _ := hcell 2 (by simp)
      have c3 : wr.cell? ⟨b, o + n * 8 + 3, none⟩ = some _ := hcell 3 (by simp)
      have c4 : wr.cell? ⟨b, o + n * 8 + 4, none⟩ = some _ := hcell 4 (by simp)
      have c5 : wr.cell? ⟨b, o + n * 8 + 5, none⟩ = some _ := hcell 5 (by simp)
      have c6 : wr.cell? ⟨b, o + n * 8 + 6, none⟩ = some _ := hcell 6 (by simp)
      have c7 : wr.cell? ⟨b, o + n * 8 + 7, none⟩ = some _ := hcell 7 (by simp)
      simp only [List.getElem_cons_zero, List.getElem_cons_succ] at c0 c1 c2 c3 c4 c5 c6 c7
      clear hcell
      obtain ⟨by_, oy, cy, rfl, hGy, hcy, hcelly⟩ := (hgL.keepF (hG'.same hk) (fun _ h => h)).cells hltg
      generalize hfx : atT t n = x at *
      have AN := AT _ (hk.alloc (.cells #[.int .i64 fs[n].kind, .int .i64 fs[n].frm, .int .i64 fs[n].to, .int .i64 fs[n].nul, .int .i64 fs[n].tag, .int .i64 fs[n].dfl, .int .i64 fs[n].ofk, .slice aS fs[n].sub.length pS] 52)) n
      rw [hfx] at AN
      rw [hy] at hcy
      have HHAS := fun W (hW : Keep [] wr W) => has_any (hc.keepF (hGr.same hW) (fun _ h => h)) v
      have HC : Hid _ := hc
      have HSUB : Hid _ := hsub
      have HFTN : Hid _ := hftn
      have HUSN : Hid _ := husn
      have hbF0 : (wr.alloc (.cells #[.int .i64 fs[n].kind, .int .i64 fs[n].frm, .int .i64 fs[n].to, .int .i64 fs[n].nul, .int .i64 fs[n].tag, .int .i64 fs[n].dfl, .int .i64 fs[n].ofk, .slice aS fs[n].sub.length pS] 52)).heap[wr.heap.size]? = some (.cells #[.int .i64 fs[n].kind, .int .i64 fs[n].frm, .int .i64 fs[n].to, .int .i64 fs[n].nul, .int .i64 fs[n].tag, .int .i64 fs[n].dfl, .int .i64 fs[n].ofk, .slice aS fs[n].sub.length pS] 52 (0, 0)) := heap_alloc_new _ _
      have hbT0 := ((keep_box (A := []) (w := wr) (.cells #[.int .i64 fs[n].kind, .int .i64 fs[n].frm, .int .i64 fs[n].to, .int .i64 fs[n].nul, .int .i64 fs[n].tag, .int .i64 fs[n].dfl, .int .i64 fs[n].ofk, .slice aS fs[n].sub.length pS] 52)).block _ lT (by simp)).trans HBT.out
      obtain ⟨s0, s1, s2, s3, s4⟩ := tbox hbT0
      have HBF0 : Hid _ := hbF0
      have kb0 : Keep [] wr (wr.alloc (.cells #[.int .i64 fs[n].kind, .int .i64 fs[n].frm, .int .i64 fs[n].to, .int .i64 fs[n].nul, .int .i64 fs[n].tag, .int .i64 fs[n].dfl, .int .i64 fs[n].ofk, .slice aS fs[n].sub.length pS] 52)) := keep_box _
      clear hbF0 hbT0 hc hsub hftn husn hy hfx
      generalize fs[n] = f at *
      have HLT : Hid (n < fs.length) := hlt
      generalize hyl : (if f.has v = true then tdF f v flex x else dflF f) = y at *
      obtain ⟨az4, ps4, al4, pl4, au4, pu4, rfl, -⟩ := id hcy.cells
      have HCY : Hid _ := hcy
      have HYL : Hid _ := hyl
      have d0 : wr.cell? ⟨by_, oy + n * 5, none⟩ = some _ := hcelly 0 (by simp)
      have d1 : wr.cell? ⟨by_, oy + n * 5 + 1, none⟩ = some _ := hcelly 1 (by simp)
      have d2 : wr.cell? ⟨by_, oy + n * 5 + 2, none⟩ = some _ := hcelly 2 (by simp)
      have d3 : wr.cell? ⟨by_, oy + n * 5 + 3, none⟩ = some _ := hcelly 3 (by simp)
      have d4 : wr.cell? ⟨by_, oy + n * 5 + 4, none⟩ = some _ := hcelly 4 (by simp)
      simp only [List.getElem_cons_zero, List.getElem_cons_succ] at d0 d1 d2 d3 d4
      clear hcelly hcy hyl
      have htagd : f.tag < 0 := htag
      cases hhas : f.has v
      case true =>
        rw [hhas] at HHAS
        have HY2 : Hid (y = tdF f v flex x) := by have h := HYL.out; rw [if_pos hhas] at h; exact h.symm
        clear hhas
        go_wp2_with (first
          | (go_at_call 26; go_loud (refine AN.mono ?_; rintro e wx ⟨c', rfl, hc', kx⟩; obtain ⟨az3, ps3, al3, pl3, au3, pu3, rfl, -⟩ := id hc'.cells; clear c0 c1 c2 c3 c4 c5 c6 c7 s0 s1 s2 s3 s4; have lx : wr.heap.size + 1 ≤ wx.heap.size := (by have h := kx.size; simpa using h); have kX := kb0.trans kx; have hbF1 := ((kx.alloc (.cells #[.int .i64 x.n, .slice az3 x.s.length ps3, .bool x.null, .slice al3 x.l.length pl3, .slice au3 x.u.length pu3] 26)).block wr.heap.size (by simp) (by simp)).trans HBF0.out; have HBF1 : Hid _ := hbF1; have HCX : Hid _ := hc'; have f0 := cellOf hbF1 0 _ rfl; have f1 := cellOf hbF1 1 _ rfl; have f2 := cellOf hbF1 2 _ rfl; have f3 := cellOf hbF1 3 _ rfl; have f4 := cellOf hbF1 4 _ rfl; have f5 := cellOf hbF1 5 _ rfl; have f6 := cellOf hbF1 6 _ rfl; have f7 := cellOf hbF1 7 _ rfl; clear hc' hbF1))
          | (go_at_call 33; go_loud (refine (HHAS _ (kX.alloc _)).mono ?_; rintro e wh ⟨rfl, kh⟩; have kW := (kX.alloc (.cells #[.int .i64 x.n, .slice az3 x.s.length ps3, .bool x.null, .slice al3 x.l.length pl3, .slice au3 x.u.length pu3] 26)).trans kh; have hbF2 := (kh.block wr.heap.size (by simp; omega) (by simp)).trans HBF1.out; have hbX2 := (kh.block wx.heap.size (by simp) (by simp)).trans (heap_alloc_new wx (.cells #[.int .i64 x.n, .slice az3 x.s.length ps3, .bool x.null, .slice al3 x.l.length pl3, .slice au3 x.u.length pu3] 26)); have hbG2 := (kW.block _ (World.heap_lt HBG.out) (by simp)).trans HBG.out; have fh4 := cellOf hbF2 4 _ rfl; clear f0 f1 f2 f3 f4 f5 f6 f7)))
        have hg3 : wh.cell? ⟨w.heap.size + 1, 3, none⟩ = some (.slice (some ⟨by_, oy, none⟩) g.l.length ql) := cellOf hbG2 3 _ rfl
        have hS := And.intro (cellOf hbF2 0 _ rfl) (And.intro (cellOf hbF2 1 _ rfl) (And.intro (cellOf hbF2 2 _ rfl) (And.intro (cellOf hbF2 3 _ rfl) (And.intro (cellOf hbF2 4 _ rfl) (And.intro (cellOf hbF2 5 _ rfl) (And.intro (cellOf hbF2 6 _ rfl) (And.intro (cellOf hbF2 7 _ rfl) (And.intro (cellOf hbX2 0 _ rfl) (And.intro (cellOf hbX2 1 _ rfl) (And.intro (cellOf hbX2 2 _ rfl) (And.intro (cellOf hbX2 3 _ rfl) (And.intro (cellOf hbX2 4 _ rfl) (And.intro (hg3) (And.intro (kW.cs d0) (And.intro (kW.cs d1) (And.intro (kW.cs d2) (And.intro (kW.cs d3) (kW.cs d4))))))))))))))))))
        go_region_held3 (fun w' => w'.cell? ⟨wr.heap.size, 0, none⟩ = some (.int .i64 f.kind) ∧ w'.cell? ⟨wr.heap.size, 1, none⟩ = some (.int .i64 f.frm) ∧ w'.cell? ⟨wr.heap.size, 2, none⟩ = some (.int .i64 f.to) ∧ w'.cell? ⟨wr.heap.size, 3, none⟩ = some (.int .i64 f.nul) ∧ w'.cell? ⟨wr.heap.size, 4, none⟩ = some (.int .i64 f.tag) ∧ w'.cell? ⟨wr.heap.size, 5, none⟩ = some (.int .i64 f.dfl) ∧ w'.cell? ⟨wr.heap.size, 6, none⟩ = some (.int .i64 f.ofk) ∧ w'.cell? ⟨wr.heap.size, 7, none⟩ = some (.slice aS f.sub.length pS) ∧ w'.cell? ⟨wx.heap.size, 0, none⟩ = some (.int .i64 x.n) ∧ w'.cell? ⟨wx.heap.size, 1, none⟩ = some (.slice az3 x.s.length ps3) ∧ w'.cell? ⟨wx.heap.size, 2, none⟩ = some (.bool x.null) ∧ w'.cell? ⟨wx.heap.size, 3, none⟩ = some (.slice al3 x.l.length pl3) ∧ w'.cell? ⟨wx.heap.size, 4, none⟩ = some (.slice au3 x.u.length pu3) ∧ w'.cell? ⟨w.heap.size + 1, 3, none⟩ = some (.slice (some ⟨by_, oy, none⟩) g.l.length ql) ∧ w'.cell? ⟨by_, oy + n * 5, none⟩ = some (.int .i64 y.n) ∧ w'.cell? ⟨by_, oy + n * 5 + 1, none⟩ = some (.slice az4 y.s.length ps4) ∧ w'.cell? ⟨by_, oy + n * 5 + 2, none⟩ = some (.bool y.null) ∧ w'.cell? ⟨by_, oy + n * 5 + 3, none⟩ = some (.slice al4 y.l.length pl4) ∧ w'.cell? ⟨by_, oy + n * 5 + 4, none⟩ = some (.slice au4 y.u.length pu4)) (exact hS) (first
          | (go_at_call 35; go_loud (refine (HFTN.out G G' x _ _ _ _ (HC.out.keepF (hGr.same kW.drew) (fun _ h => h)) (HCX.out.keepF (fun k h => ((keep_box (A := []) _).trans kh).drew.block k (hG.keep (hk.trans kX) k h) List.not_mem_nil) (fun _ h => h)) (by have h := HCY.out.keepF ((hG'.keep hk).same kW.drew) (fun _ h => h); rw [← HY2.out]; exact h) (hG.keep (hk.trans kW.drew)) (hG'.keep (hk.trans kW.drew))).mono ?_; rintro e w2 ⟨rfl, k2⟩; have kF : Keep [] wh w2 := (Keep.refl _ _).drew.trans k2; have hS := And.intro (kF.cs (hS.1)) (And.intro (kF.cs (hS.2.1)) (And.intro (kF.cs (hS.2.2.1)) (And.intro (kF.cs (hS.2.2.2.1)) (And.intro (kF.cs (hS.2.2.2.2.1)) (And.intro (kF.cs (hS.2.2.2.2.2.1)) (And.intro (kF.cs (hS.2.2.2.2.2.2.1)) (And.intro (kF.cs (hS.2.2.2.2.2.2.2.1)) (And.intro (kF.cs (hS.2.2.2.2.2.2.2.2.1)) (And.intro (kF.cs (hS.2.2.2.2.2.2.2.2.2.1)) (And.intro (kF.cs (hS.2.2.2.2.2.2.2.2.2.2.1)) (And.intro (kF.cs (hS.2.2.2.2.2.2.2.2.2.2.2.1)) (And.intro (kF.cs (hS.2.2.2.2.2.2.2.2.2.2.2.2.1)) (And.intro (kF.cs (hS.2.2.2.2.2.2.2.2.2.2.2.2.2.1)) (And.intro (kF.cs (hS.2.2.2.2.2.2.2.2.2.2.2.2.2.2.1)) (And.intro (kF.cs (hS.2.2.2.2.2.2.2.2.2.2.2.2.2.2.2.1)) (And.intro (kF.cs (hS.2.2.2.2.2.2.2.2.2.2.2.2.2.2.2.2.1)) (And.intro (kF.cs (hS.2.2.2.2.2.2.2.2.2.2.2.2.2.2.2.2.2.1)) (kF.cs (hS.2.2.2.2.2.2.2.2.2.2.2.2.2.2.2.2.2.2))))))))))))))))))))))
        go_wp2
        go_roundw
        case rel => exact ⟨n + 1, HLT.out, by go_num, hkeep.trans (kW.trans kF)⟩
        case measure => have h9 := HLT.out; simp [intOf]; omega
      case false =>
        rw [hhas] at HHAS
        have HY2 : Hid (y = dflF f) := by have h := HYL.out; rw [if_neg (by simp [hhas])] at h; exact h.symm
        clear hhas
        go_wp2_with (first
          | (go_at_call 26; go_loud (refine AN.mono ?_; rintro e wx ⟨c', rfl, hc', kx⟩; obtain ⟨az3, ps3, al3, pl3, au3, pu3, rfl, -⟩ := id hc'.cells; clear c0 c1 c2 c3 c4 c5 c6 c7 s0 s1 s2 s3 s4; have lx : wr.heap.size + 1 ≤ wx.heap.size := (by have h := kx.size; simpa using h); have kX := kb0.trans kx; have hbF1 := ((kx.alloc (.cells #[.int .i64 x.n, .slice az3 x.s.length ps3, .bool x.null, .slice al3 x.l.length pl3, .slice au3 x.u.length pu3] 26)).block wr.heap.size (by simp) (by simp)).trans HBF0.out; have HBF1 : Hid _ := hbF1; have HCX : Hid _ := hc'; have f0 := cellOf hbF1 0 _ rfl; have f1 := cellOf hbF1 1 _ rfl; have f2 := cellOf hbF1 2 _ rfl; have f3 := cellOf hbF1 3 _ rfl; have f4 := cellOf hbF1 4 _ rfl; have f5 := cellOf hbF1 5 _ rfl; have f6 := cellOf hbF1 6 _ rfl; have f7 := cellOf hbF1 7 _ rfl; clear hc' hbF1))
          | (go_at_call 33; go_loud (refine (HHAS _ (kX.alloc _)).mono ?_; rintro e wh ⟨rfl, kh⟩; have kW := (kX.alloc (.cells #[.int .i64 x.n, .slice az3 x.s.length ps3, .bool x.null, .slice al3 x.l.length pl3, .slice au3 x.u.length pu3] 26)).trans kh; have hbF2 := (kh.block wr.heap.size (by simp; omega) (by simp)).trans HBF1.out; have hbX2 := (kh.block wx.heap.size (by simp) (by simp)).trans (heap_alloc_new wx (.cells #[.int .i64 x.n, .slice az3 x.s.length ps3, .bool x.null, .slice al3 x.l.length pl3, .slice au3 x.u.length pu3] 26)); have hbG2 := (kW.block _ (World.heap_lt HBG.out) (by simp)).trans HBG.out; have fh4 := cellOf hbF2 4 _ rfl; clear f0 f1 f2 f3 f4 f5 f6 f7)))
        have hg3 : wh.cell? ⟨w.heap.size + 1, 3, none⟩ = some (.slice (some ⟨by_, oy, none⟩) g.l.length ql) := cellOf hbG2 3 _ rfl
        have HA := fun W (k : Keep [] wh W) => And.intro (k.cs (cellOf hbF2 0 _ rfl)) (And.intro (k.cs (cellOf hbF2 1 _ rfl)) (And.intro (k.cs (cellOf hbF2 2 _ rfl)) (And.intro (k.cs (cellOf hbF2 3 _ rfl)) (And.intro (k.cs (cellOf hbF2 4 _ rfl)) (And.intro (k.cs (cellOf hbF2 5 _ rfl)) (And.intro (k.cs (cellOf hbF2 6 _ rfl)) (And.intro (k.cs (cellOf hbF2 7 _ rfl)) (And.intro (k.cs hg3) (And.intro (k.cs (kW.cs d0)) (And.intro (k.cs (kW.cs d1)) (And.intro (k.cs (kW.cs d2)) (And.intro (k.cs (kW.cs d3)) (k.cs (kW.cs d4))))))))))))))
        have HAH : Hid _ := HA
        clear HA fh4
        go_region_held3 (fun w' => w'.cell? ⟨wr.heap.size, 0, none⟩ = some (.int .i64 f.kind) ∧ w'.cell? ⟨wr.heap.size, 1, none⟩ = some (.int .i64 f.frm) ∧ w'.cell? ⟨wr.heap.size, 2, none⟩ = some (.int .i64 f.to) ∧ w'.cell? ⟨wr.heap.size, 3, none⟩ = some (.int .i64 f.nul) ∧ w'.cell? ⟨wr.heap.size, 4, none⟩ = some (.int .i64 f.tag) ∧ w'.cell? ⟨wr.heap.size, 5, none⟩ = some (.int .i64 f.dfl) ∧ w'.cell? ⟨wr.heap.size, 6, none⟩ = some (.int .i64 f.ofk) ∧ w'.cell? ⟨wr.heap.size, 7, none⟩ = some (.slice aS f.sub.length pS) ∧ w'.cell? ⟨w.heap.size + 1, 3, none⟩ = some (.slice (some ⟨by_, oy, none⟩) g.l.length ql) ∧ w'.cell? ⟨by_, oy + n * 5, none⟩ = some (.int .i64 y.n) ∧ w'.cell? ⟨by_, oy + n * 5 + 1, none⟩ = some (.slice az4 y.s.length ps4) ∧ w'.cell? ⟨by_, oy + n * 5 + 2, none⟩ = some (.bool y.null) ∧ w'.cell? ⟨by_, oy + n * 5 + 3, none⟩ = some (.slice al4 y.l.length pl4) ∧ w'.cell? ⟨by_, oy + n * 5 + 4, none⟩ = some (.slice au4 y.u.length pu4)) (first | exact HAH.out _ (Keep.refl _ _) | exact HAH.out _ (Keep.refl _ _).drew | exact HAH.out _ ((Keep.refl _ _).drew.alloc _) | exact HAH.out _ (((Keep.refl _ _).drew.alloc _).alloc _) | exact HAH.out _ kF) (first
          | (go_at_call 36; (with_reducible (show Calls _ _ #[.slice (some ⟨wh.heap.size, 0, none⟩) 1 1, _] _ _)); go_loud (refine (HUSN.out (fun i => G i ∨ i = wh.heap.size) (fun i => G' i ∨ i = wh.heap.size + 1) _ (.mk 0 [] false [y] []) [_, _, _, _, _] _ (one_fields (k := wh.heap.size) (((keep_box (A := []) _).block _ (by simp) (by simp)).trans (heap_alloc_new wh.drew _)) (HFs.keepF HSUB.out (hGr.same (kW.trans (((Keep.refl _ _).drew.alloc _).alloc _))) (fun _ h => h))) (one_tree (k := wh.heap.size + 1) (alloc_at2 wh.drew _ _) (HCY.out.keepF ((hG'.keep hk).same (kW.trans (((Keep.refl _ _).drew.alloc _).alloc _))) (fun _ h => h))) (fun i hi => hi.elim (fun h => hG.keep (hk.trans (kW.trans (((Keep.refl _ _).drew.alloc _).alloc _))) i h) (fun h => (by subst h; first | (simp; done) | (simp; omega) | (show _ < _; simp [World.drew, World.alloc]; omega)))) (fun i hi => hi.elim (fun h => hG'.keep (hk.trans (kW.trans (((Keep.refl _ _).drew.alloc _).alloc _))) i h) (fun h => (by subst h; first | (simp; done) | (simp; omega) | (show _ < _; simp [World.drew, World.alloc]; omega)))) rfl (one_usual HY2.out)).mono ?_; rintro e w2 ⟨rfl, k2⟩; have kF : Keep [] wh w2 := (((Keep.refl _ _).drew.alloc _).alloc _).trans k2))
          | (go_at_call 36; (with_reducible (show Calls _ _ #[.slice (some ⟨wh.heap.size + 1, 0, none⟩) 1 1, _] _ _)); go_loud (refine (HUSN.out (fun i => G i ∨ i = wh.heap.size + 1) (fun i => G' i ∨ i = wh.heap.size) _ (.mk 0 [] false [y] []) [_, _, _, _, _] _ (one_fields (k := wh.heap.size + 1) (alloc_at2 wh.drew _ _) (HFs.keepF HSUB.out (hGr.same (kW.trans (((Keep.refl _ _).drew.alloc _).alloc _))) (fun _ h => h))) (one_tree (k := wh.heap.size) (((keep_box (A := []) _).block _ (by simp) (by simp)).trans (heap_alloc_new wh.drew _)) (HCY.out.keepF ((hG'.keep hk).same (kW.trans (((Keep.refl _ _).drew.alloc _).alloc _))) (fun _ h => h))) (fun i hi => hi.elim (fun h => hG.keep (hk.trans (kW.trans (((Keep.refl _ _).drew.alloc _).alloc _))) i h) (fun h => (by subst h; first | (simp; done) | (simp; omega) | (show _ < _; simp [World.drew, World.alloc]; omega)))) (fun i hi => hi.elim (fun h => hG'.keep (hk.trans (kW.trans (((Keep.refl _ _).drew.alloc _).alloc _))) i h) (fun h => (by subst h; first | (simp; done) | (simp; omega) | (show _ < _; simp [World.drew, World.alloc]; omega)))) rfl (one_usual HY2.out)).mono ?_; rintro e w2 ⟨rfl, k2⟩; have kF : Keep [] wh w2 := (((Keep.refl _ _).drew.alloc _).alloc _).trans k2)))
        all_goals go_wp2
        all_goals go_roundw
        all_goals (first | exact ⟨n + 1, HLT.out, by go_num, hkeep.trans (kW.trans kF)⟩ | (have h9 := HLT.out; simp [intOf]; omega))
    · obtain ⟨W9, rfl⟩ : ∃ x : World, x = wr := ⟨_, rfl⟩
      have hnt := un_noTags hun
      have UN := unknown_any (hF.keepF (hG.same hk) (fun _ h => h)) (hu.keepF (hG.same hk) (fun _ h => h)) hGr hnt
      obtain ⟨s0, s1, s2, s3, s4⟩ := tbox HBT.out
      have HGU2 := fun W (hW : Keep [] w W) => hgU.keepF (hG'.same hW) (fun _ h => h)
      cases flex
      case false =>
        have hgu0 : g.u = [] := HGU.out
        have hz : ((g.u.length : Int) != 0) = false := by rw [hgu0]; rfl
        clear hgu0 HGU2
        go_wp2_with (go_at_call 37; go_loud (refine UN.mono ?_; rintro e wu ⟨d, rfl, hd, ku⟩; obtain ⟨ad, pd, rfl⟩ := hd.shape; have g4 := cellOf ((ku.block _ lG (by simp)).trans HBG.out) 4 _ rfl))
        go_loopw [92] (fun k w2 => k = .int .i64 0 ∧ Keep [] wu w2) (fun _ _ => 0)
        case atStart => exact ⟨rfl, Keep.refl _ _⟩
        case round =>
          obtain ⟨rfl, k2⟩ := hrel
          go_wp2
          go_ret
          exact ⟨rfl, hk.trans (ku.trans k2)⟩
      case true =>
        have hgu1 : g.u = tdU fs t.u := HGU.out
        have hU0 : unknownP fs t.u = unknownFrom 0 t.u := by unfold unknownP; rw [show knownP fs = 0 from known0 fs 0 hun]
        have hgu2 : g.u = (unknownFrom 0 t.u).map fun x => (x.1, whole x.2) := by rw [hgu1, tdU, hU0]
        have hul : (unknownFrom 0 t.u).length ≤ 32767 := by rw [← hU0]; exact (unknownP_spec fs t.u).2.2
        have hlu : g.u.length = (unknownFrom 0 t.u).length := by rw [hgu2, List.length_map]
        have hget : ∀ m (h1 : m < g.u.length) (h2 : m < (unknownFrom 0 t.u).length), g.u[m].1 = (unknownFrom 0 t.u)[m].1 ∧ g.u[m].2 = whole (unknownFrom 0 t.u)[m].2 := fun m h1 h2 => by
          simp [hgu2]
        have HLU : Hid _ := hlu
        have HGET : Hid _ := hget
        clear hgu1 hgu2 hU0 hlu hget
        generalize unknownFrom 0 t.u = us at *
        have hz : ((g.u.length : Int) != (us.length : Int)) = false := by rw [HLU.out]; simp
        go_wp2_with (go_at_call 37; go_loud (refine UN.mono ?_; rintro e wu ⟨d, rfl, hd, ku⟩; obtain ⟨ad, pd, rfl⟩ := hd.shape; have hbG3 := (ku.block _ lG (by simp)).trans HBG.out; have HBG3 : Hid _ := hbG3; have g4 := cellOf hbG3 4 _ rfl; clear hbG3))
        clear hz g4 s0 s1 s2 s3 s4
        have kwu := hk.trans ku
        go_loopw [92] (fun k w2 => ∃ m : Nat, m ≤ us.length ∧ k = .int .i64 m ∧ Keep [] wu w2) (fun k _ => us.length - (intOf k).toNat)
        case atStart => exact ⟨0, Nat.zero_le _, rfl, Keep.refl _ _⟩
        case round =>
          obtain ⟨m, hm, rfl, k2⟩ := hrel
          have kw2 := kwu.trans k2
          by_cases hlt : m < us.length
          · have hltg : m < g.u.length := by rw [HLU.out]; exact hlt
            obtain ⟨hq1, hq2⟩ := HGET.out m hltg hlt
            have hdT : There (fun k => G k ∨ (W9.heap.size ≤ k ∧ k < wu.heap.size)) wu := fun k h => h.elim (fun h => hG.keep kwu k h) (fun h => h.2)
            obtain ⟨bx, ox, av, pv, rfl, hGx, c0, c1, hb1, hbl⟩ := (hd.keepF (hdT.same k2) (fun _ h => h)).elem hlt
            obtain ⟨by_, oy, av', pv', rfl, hGy, e0, e1, hb2, hbl2⟩ := (HGU2 _ kw2).elem hltg
            rw [hq1] at e0
            have hq3 := whole_len us[m].2
            have hblw : bx < W9.heap.size ∨ bx < wu.heap.size := by rcases hGx with h | h; exact .inl (hGr bx h); exact .inr h.2
            generalize us[m] = z at *
            generalize g.u[m].2 = zv at *
            have HQ2 : Hid _ := hq2
            have HLT : Hid (m < us.length) := hlt
            have hbG4 := (k2.block _ (World.heap_lt HBG3.out) (by simp)).trans HBG3.out
            have kA : Keep [] wr (wr.alloc (.cells #[.int .u32 (z.1 : Int), .slice av z.2.length pv] 64)) := keep_box _
            have hbU : (wr.alloc (.cells #[.int .u32 (z.1 : Int), .slice av z.2.length pv] 64)).heap[wr.heap.size]? = some (.cells #[.int .u32 (z.1 : Int), .slice av z.2.length pv] 64 (0, 0)) := heap_alloc_new _ _
            have g4 : wr.cell? ⟨w.heap.size + 1, 4, none⟩ = some (.slice (some ⟨by_, oy, none⟩) g.u.length qu) := cellOf hbG4 4 _ rfl
            have hS := And.intro (kA.cs g4) (And.intro (kA.cs e0) (And.intro (kA.cs e1) (And.intro (cellOf hbU 0 _ rfl) (cellOf hbU 1 _ rfl))))
            have hne0 : ((z.1 : Int) != (z.1 : Int)) = false := by simp
            clear hbG4 hq1 hq2 hbU
            go_wp2_with fail
            clear c0 c1
            have hb1' := hb1.keepF (G := fun k => G k ∨ (W9.heap.size ≤ k ∧ k < wu.heap.size)) (w' := (wr.alloc (.cells #[.int .u32 (z.1 : Int), .slice av z.2.length pv] 64)).drew) (fun k h => kA.drew.block k (Nat.lt_of_lt_of_le (hdT k h) k2.size) List.not_mem_nil) (fun _ h => h)
            go_region_held3 (fun w' => w'.cell? ⟨w.heap.size + 1, 4, none⟩ = some (.slice (some ⟨by_, oy, none⟩) g.u.length qu) ∧ w'.cell? ⟨by_, oy + m * 2, none⟩ = some (.int .u32 (z.1 : Int)) ∧ w'.cell? ⟨by_, oy + m * 2 + 1, none⟩ = some (.slice av' zv.length pv') ∧ w'.cell? ⟨wr.heap.size, 0, none⟩ = some (.int .u32 (z.1 : Int)) ∧ w'.cell? ⟨wr.heap.size, 1, none⟩ = some (.slice av z.2.length pv)) (first | exact hS | exact hS2) (first
              | (go_at_call 39; go_loud (refine (whole_any hb1' (by omega)).mono ?_; rintro e wy ⟨d, rfl, hd2, rfl⟩; obtain ⟨ad2, pd2, rfl⟩ := RS.shape hd2))
              | (go_at_call 38; go_loud (refine (same_any (hb2.keepF ((hG'.keep kw2).same kA.drew) (fun _ h => h)) hd2 (by rw [HQ2.out]; omega) (by omega)).mono ?_; rintro e wz ⟨rfl, kz⟩; rw [show (zv == whole z.2) = true from (by rw [HQ2.out]; exact beq_self_eq_true _)]; have kZ := kA.drew.trans kz; have hS2 := And.intro (kZ.cs g4) (And.intro (kZ.cs e0) (And.intro (kZ.cs e1) (And.intro (((Keep.refl [] _).drew.trans kz).cs hS.2.2.2.1) (((Keep.refl [] _).drew.trans kz).cs hS.2.2.2.2)))))))
            go_wp2
            go_roundw
            case rel => exact ⟨m + 1, HLT.out, by go_num, k2.trans kZ⟩
            case measure => have h9 := HLT.out; simp [intOf]; omega
          · go_wp2
            go_ret
            exact ⟨rfl, kw2⟩
end Go.Proofs.YtdklogmmfnddiaaDoor
