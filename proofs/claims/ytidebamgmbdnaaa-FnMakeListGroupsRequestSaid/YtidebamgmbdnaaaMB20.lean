/-
  spec.Fit at a part's fields.
-/
import Derived.Test.YtidebamgmbdnaaaMB19
import Derived.Test.YtidebamgmbdnaaaMB3
namespace Go.Proofs.Ytidebamgmbdnaaa
open Go.ChangeShapes Go.WideShapes Go.ChangeAt Go.RowKit

set_option maxHeartbeats 4000000 in
set_option maxRecDepth 100000 in
theorem fit_step {fs : List F} {v : Int} (hno : noTags fs = true) (hfs : ∀ f ∈ fs, FieldFit f v) : FitSaid fs v := by
  intro G vs t c w hF ht hG
  have hFb := hF.bd
  obtain ⟨aF, pF, rfl, hpF⟩ := hF.shape
  obtain ⟨az, ps, al, pl, au, pu, rfl, hs, hl, hu, hn1, hn2, hn3, -⟩ := id ht.cells
  obtain ⟨i0, hi, hz0, hz1, hz2⟩ := info_agg info_st zero_st
  obtain ⟨j0, hj, hy0, hy1, hy2⟩ := info_agg info_sg zero_sg
  have AT := fun W (hW : Keep [] w W) i => at_any (ht.keepF (hG.same hW) (fun _ h => h)) (hG.keep hW) i
  have UN := fun W (hW : Keep [] w W) => unknown_any (hF.keepF (hG.same hW) (fun _ h => h)) (hu.keepF (hG.same hW) (fun _ h => h)) (hG.keep hW) hno
  have hkeys : ∀ x ∈ t.u, x.1 < 4294967296 := by obtain ⟨_, _, _, h3, _⟩ := hu; exact fun x hx => (h3 x hx).1
  have hfl := fitFs_len fs 0 v t
  have HTU : Hid (fitPart fs v t = .mk 0 [] false (fitFs fs 0 v t) ((unknownFrom 0 t.u).map fun x => (x.1, whole x.2))) := Lib.hid (by unfold fitPart tdU unknownP; rw [show knownP fs = 0 from known0 fs 0 (noTags_un hno)])
  rw [HTU.out]
  clear hs hl hu HTU
  go_enter Try.func15, Try.ntmps15
  go_wp2_with fail
  have K3 : Keep [] w (((w.alloc (.cells #[.int .i64 t.n, .slice az t.s.length ps, .bool t.null, .slice al t.l.length pl, .slice au t.u.length pu] 26)).alloc (.cells #[.int .i64 0, .slice none 0 0, .bool false, .slice none 0 0, .slice none 0 0] 26)).alloc (.cells #[.int .i64 0, .slice none 0 0, .bool false, .slice none 0 0, .slice none 0 0] 26)) := ((keep_box _).alloc _).alloc _
  have s3 : (((w.alloc (.cells #[.int .i64 t.n, .slice az t.s.length ps, .bool t.null, .slice al t.l.length pl, .slice au t.u.length pu] 26)).alloc (.cells #[.int .i64 0, .slice none 0 0, .bool false, .slice none 0 0, .slice none 0 0] 26)).alloc (.cells #[.int .i64 0, .slice none 0 0, .bool false, .slice none 0 0, .slice none 0 0] 26)).heap.size = w.heap.size + 1 + 1 + 1 := by simp
  have hb0 : (((w.alloc (.cells #[.int .i64 t.n, .slice az t.s.length ps, .bool t.null, .slice al t.l.length pl, .slice au t.u.length pu] 26)).alloc (.cells #[.int .i64 0, .slice none 0 0, .bool false, .slice none 0 0, .slice none 0 0] 26)).alloc (.cells #[.int .i64 0, .slice none 0 0, .bool false, .slice none 0 0, .slice none 0 0] 26)).heap[w.heap.size + 1 + 1]? = some (.cells #[.int .i64 0, .slice none 0 0, .bool false, .slice none 0 0, .slice none 0 0] 26 (0, 0)) := by
    have h := heap_alloc_new ((w.alloc (.cells #[.int .i64 t.n, .slice az t.s.length ps, .bool t.null, .slice al t.l.length pl, .slice au t.u.length pu] 26)).alloc (.cells #[.int .i64 0, .slice none 0 0, .bool false, .slice none 0 0, .slice none 0 0] 26)) (.cells #[.int .i64 0, .slice none 0 0, .bool false, .slice none 0 0, .slice none 0 0] 26)
    simpa using h
  have hb1 : (((w.alloc (.cells #[.int .i64 t.n, .slice az t.s.length ps, .bool t.null, .slice al t.l.length pl, .slice au t.u.length pu] 26)).alloc (.cells #[.int .i64 0, .slice none 0 0, .bool false, .slice none 0 0, .slice none 0 0] 26)).alloc (.cells #[.int .i64 0, .slice none 0 0, .bool false, .slice none 0 0, .slice none 0 0] 26)).heap[w.heap.size]? = some (.cells #[.int .i64 t.n, .slice az t.s.length ps, .bool t.null, .slice al t.l.length pl, .slice au t.u.length pu] 26) := (twoBoxes (keep_box (A := []) (.cells #[.int .i64 0, .slice none 0 0, .bool false, .slice none 0 0, .slice none 0 0] 26))).1
  have hb2 : (((w.alloc (.cells #[.int .i64 t.n, .slice az t.s.length ps, .bool t.null, .slice al t.l.length pl, .slice au t.u.length pu] 26)).alloc (.cells #[.int .i64 0, .slice none 0 0, .bool false, .slice none 0 0, .slice none 0 0] 26)).alloc (.cells #[.int .i64 0, .slice none 0 0, .bool false, .slice none 0 0, .slice none 0 0] 26)).heap[w.heap.size + 1]? = some (.cells #[.int .i64 0, .slice none 0 0, .bool false, .slice none 0 0, .slice none 0 0] 26) := (twoBoxes (keep_box (A := []) (.cells #[.int .i64 0, .slice none 0 0, .bool false, .slice none 0 0, .slice none 0 0] 26))).2
  generalize hW3 : (((w.alloc (.cells #[.int .i64 t.n, .slice az t.s.length ps, .bool t.null, .slice al t.l.length pl, .slice au t.u.length pu] 26)).alloc (.cells #[.int .i64 0, .slice none 0 0, .bool false, .slice none 0 0, .slice none 0 0] 26)).alloc (.cells #[.int .i64 0, .slice none 0 0, .bool false, .slice none 0 0, .slice none 0 0] 26)) = W3 at *
  clear hW3
  have HB1 : Hid _ := hb1
  have HB2 : Hid _ := hb2
  have hs3 : w.heap.size + 3 ≤ W3.heap.size := by omega
  have hs3' : W3.heap.size ≤ w.heap.size + 3 := by omega
  clear hb1 hb2 s3
  go_loopw [15] (fun k wr => ∃ n : Nat, n ≤ fs.length ∧ k = .int .i64 n ∧ ∃ v', wr.heap[w.heap.size + 1 + 1]? = some (.cells #[.int .i64 0, .slice none 0 0, .bool false, v', .slice none 0 0] 26 (0, 0)) ∧ OT wr W3.heap.size 26 (New G W3 wr) v' ((fitFs fs 0 v t).take n) ∧ Keep [w.heap.size + 1 + 1] W3 wr) (fun k _ => fs.length - (intOf k).toNat)
  case atStart => exact ⟨0, Nat.zero_le _, rfl, _, hb0, by simpa using OT.nil _ _ _ _, Keep.refl _ _⟩
  case round =>
    obtain ⟨n, hn, rfl, v', hout, hOT, hkeep⟩ := hrel
    have hk : Keep [w.heap.size + 1 + 1] w wr := (K3.weaken (by simp)).trans hkeep
    have hsame : SameOn G w wr := sameOn_of hk hG (fun k hk' => by have := hG k hk'; simp; omega)
    have hGr : There G wr := fun k hk' => Nat.lt_of_lt_of_le (hG k hk') hk.size
    have hsz := hk.size
    have hsz3 := hkeep.size
    have z3 : wr.cell? ⟨w.heap.size + 1 + 1, 3, none⟩ = some v' := cellOf hout 3 _ rfl
    have f3 : wr.frozen? ⟨w.heap.size + 1 + 1, 3, none⟩ = false := freeOf hout 3
    have hbt : w.heap.size + 1 + 1 < wr.heap.size := by omega
    have HOUT : Hid _ := hout
    have hT := (hkeep.block w.heap.size (by omega) (by simp; omega)).trans HB1.out
    have hbT : w.heap.size < wr.heap.size := by omega
    have t0 : wr.cell? ⟨w.heap.size, 0, none⟩ = some _ := cellOf hT 0 _ rfl
    have t1 : wr.cell? ⟨w.heap.size, 1, none⟩ = some _ := cellOf hT 1 _ rfl
    have t2 : wr.cell? ⟨w.heap.size, 2, none⟩ = some _ := cellOf hT 2 _ rfl
    have t3 : wr.cell? ⟨w.heap.size, 3, none⟩ = some _ := cellOf hT 3 _ rfl
    have t4 : wr.cell? ⟨w.heap.size, 4, none⟩ = some _ := cellOf hT 4 _ rfl
    have HTb : Hid _ := hT
    clear hT
    by_cases hlt : n < fs.length
    · obtain ⟨bf, of, pf2, cf, ef, hcp, hGb, hc, hcell⟩ := (hF.keepF hsame (fun _ h => h)).elem hlt
      cases ef
      have GS := fun W (hW : Keep [] wr W) (t2 : T) c2 (h2 : HT W G t2 c2) => hfs fs[n] (List.getElem_mem hlt) G _ t2 c2 W (hc.keepF (hGr.same hW) (fun _ h => h)) h2 (hGr.keep hW)
      have hgy : (fitFs fs 0 v t)[n]'(by omega) = fitF fs[n] v (atT t n) := by rw [fitFs_get fs 0 v t n hlt (by omega)]; simp
      obtain ⟨aS, pS, rfl, hsub⟩ := hc.cells
      have hbl : bf < wr.heap.size := hGr bf hGb
      have c0 : wr.cell? ⟨bf, of + n * 8, none⟩ = some _ := hcell 0 (by simp)
      have c1 : wr.cell? ⟨bf, of + n * 8 + 1, none⟩ = some _ := hcell 1 (by simp)
      have c2 : wr.cell? ⟨bf, of + n * 8 + 2, none⟩ = some _ := hcell 2 (by simp)
      have c3 : wr.cell? ⟨bf, of + n * 8 + 3, none⟩ = some _ := hcell 3 (by simp)
      have c4 : wr.cell? ⟨bf, of + n * 8 + 4, none⟩ = some _ := hcell 4 (by simp)
      have c5 : wr.cell? ⟨bf, of + n * 8 + 5, none⟩ = some _ := hcell 5 (by simp)
      have c6 : wr.cell? ⟨bf, of + n * 8 + 6, none⟩ = some _ := hcell 6 (by simp)
      have c7 : wr.cell? ⟨bf, of + n * 8 + 7, none⟩ = some _ := hcell 7 (by simp)
      simp only [List.getElem_cons_zero, List.getElem_cons_succ] at c0 c1 c2 c3 c4 c5 c6 c7
      clear hcell hc hsub hout
      have ATn := fun W (hW : Keep [] w W) => AT W hW n
      generalize fs[n] = f at *
      generalize atT t n = x at *
      generalize hyx : fitF f v x = y at *
      have HXN : Hid _ := hgy
      have HYX : Hid _ := hyx
      clear hgy hyx
      go_wp2_with fail
      clear c0 c1 c2 c3 c4 c5 c6 c7
      have hlen : ((fitFs fs 0 v t).take n).length = n := by simp; omega
      have HLEN : Hid _ := hlen
      have HLT : Hid (n < (fitFs fs 0 v t).length) := by show _ < _; omega
      have tok1 : Hid True := Lib.hid trivial
      clear hlen
      go_region_law (first
        | (have _t := tok2; refine step_call (by rfl) 35 #[.tmp 22, .tmp 23, .tmp 26] #[50, 3, 26] (by rfl) #[.agg #[.int .i64 f.kind, .int .i64 f.frm, .int .i64 f.to, .int .i64 f.nul, .int .i64 f.tag, .int .i64 f.dfl, .int .i64 f.ofk, .slice aS f.sub.length pS], .int .i64 v, .agg #[.int .i64 x.n, .slice az3 x.s.length ps3, .bool x.null, .slice al3 x.l.length pl3, .slice au3 x.u.length pu3]] (by simp [go_sem]) _ (by rfl) fitted_body fitted_name (GS _ ((keep_box _).drew.trans ka) x _ ha) ?_; rintro e w2 ⟨c', rfl, hc0, k2⟩; rw [HYX.out] at hc0; have hc' : HT w2 (New G (wr.alloc (.cells #[.int .i64 f.kind, .int .i64 f.frm, .int .i64 f.to, .int .i64 f.nul, .int .i64 f.tag, .int .i64 f.dfl, .int .i64 f.ofk, .slice aS f.sub.length pS] 50)).drew w2) y c' := hc0.keepF (fun _ _ => rfl) (fun k hk' => ⟨hk'.1.imp id (fun h => by have := ka.size; omega), hk'.2⟩); clear hc0 tok2 _t; refine ⟨_, rfl, ?_⟩; obtain ⟨az5, ps5, al5, pl5, au5, pu5, rfl, _⟩ := id hc'.cells; have kx : Keep [] wr w2 := ((keep_box _).drew.trans ka).trans k2; have y3 := kx.cs z3; have hs2 := kx.size; have hs2' := k2.size; have hlt2 : w.heap.size + 1 + 1 < w2.heap.size := (by omega); have y4 := (kx.frozen (p := ⟨w.heap.size + 1 + 1, 3, none⟩) hbt).trans f3)
        | (have _t := tok1; refine step_call (by rfl) 36 #[.tmp 24, .tmp 25] #[26, 3] (by rfl) #[.agg #[.int .i64 t.n, .slice az t.s.length ps, .bool t.null, .slice al t.l.length pl, .slice au t.u.length pu], .int .i64 (n : Int)] (by simp [go_sem]) _ (by rfl) sat_body sat_name (ATn _ ((hk.fresh (B := []) (by simp; omega)).trans (keep_box _).drew)) ?_; rintro e wa ⟨ca, rfl, ha, ka⟩; obtain ⟨az3, ps3, al3, pl3, au3, pu3, rfl, -⟩ := id ha.cells; refine ⟨_, rfl, ?_⟩; clear tok1 _t; have tok2 : Hid True := Lib.hid trivial; have k2a : Keep [] wr wa := (keep_box _).drew.trans ka; have hza := k2a.size; have z3a := k2a.cs z3; have hbx := (ka.block wr.heap.size (by simp) (by simp)).trans (heap_alloc_new wr (.cells #[.int .i64 f.kind, .int .i64 f.frm, .int .i64 f.to, .int .i64 f.nul, .int .i64 f.tag, .int .i64 f.dfl, .int .i64 f.ofk, .slice aS f.sub.length pS] 50)); have ea0 := cellOf hbx 0 _ rfl; have ea1 := cellOf hbx 1 _ rfl; have ea2 := cellOf hbx 2 _ rfl; have ea3 := cellOf hbx 3 _ rfl; have ea4 := cellOf hbx 4 _ rfl; have ea5 := cellOf hbx 5 _ rfl; have ea6 := cellOf hbx 6 _ rfl; have ea7 := cellOf hbx 7 _ rfl; clear hbx)
        | (obtain ⟨cs, e1, e2, e3, e4⟩ := hOT.keepF (w' := w2.alloc (.cells #[.int .i64 y.n, .slice az5 y.s.length ps5, .bool y.null, .slice al5 y.l.length pl5, .slice au5 y.u.length pu5] 26)) (G' := New G W3 (w2.alloc (.cells #[.int .i64 y.n, .slice az5 y.s.length ps5, .bool y.null, .slice al5 y.l.length pl5, .slice au5 y.u.length pu5] 26))) (fun k hk' => (kx.alloc _).block k hk'.2 (by simp)) (fun k hk' => ⟨hk'.1, by simp; have := hk'.2; omega⟩) (fun k e => by obtain ⟨xs, hr⟩ := hOT.row; have := hr.lt k e; exact (kx.alloc _).block k this.2 (by simp)); refine step_append_lies _ (by rfl) (.tmp 21) (.tmp 28) _ (by rfl) W3.heap.size 26 i0 _ 5 88 Try.underlying23 hi hz0 hz1 hz2 rfl (by omega) v' _ cs.flatten (by rfl) e4 ⟨w2.heap.size, 0, none⟩ 1 1 [.int .i64 y.n, .slice az5 y.s.length ps5, .bool y.null, .slice al5 y.l.length pl5, .slice au5 y.u.length pu5] (by rfl) (by rfl) (World.news_of_block (cs := #[.int .i64 y.n, .slice az5 y.s.length ps5, .bool y.null, .slice al5 y.l.length pl5, .slice au5 y.u.length pu5]) (heap_alloc_new w2 _)) hc'.one (by omega) (by unfold maxLen; rw [HLEN.out]; omega) (by rw [HLEN.out]; omega) (by simp; omega) (w2.heap.size + 1) (by simp) ?_; intro g cap w3 hown1 hgr hat hlt3; have nb := hOT.off (k := w.heap.size + 1 + 1) (by omega); have x1 := hgr.block (w.heap.size + 1 + 1) (by simp; omega) nb; have x2 := (kx.alloc (.cells #[.int .i64 y.n, .slice az5 y.s.length ps5, .bool y.null, .slice al5 y.l.length pl5, .slice au5 y.u.length pu5] 26)).block _ hbt List.not_mem_nil; have x3 := (x1.trans x2).trans HOUT.out; have z5 := cellOf x3 3 _ rfl; have f5 := freeOf x3 3; clear x1 x2))
      all_goals (go_wp2; go_roundw; (case rel => (refine ⟨n + 1, by omega, by go_num, _, heap_set x3 _, ?_⟩; obtain ⟨xs0, hrow0⟩ := hOT.row; have hG3 := got_round (i := 3) (u := .slice (some ⟨g, 0, none⟩) (n + 1) cap) hG (by omega) (by omega) (by omega) hkeep kx hrow0 hc' e1 e2 (by rw [HLEN.out]; omega) hown1 hgr hat; rw [HLEN.out] at hG3; rw [List.take_succ_eq_append_getElem HLT.out, HXN.out]; exact hG3)); (case measure => (simp [intOf]; omega)))
    · obtain rfl : n = fs.length := by omega
      have hnl : (fitFs fs 0 v t).take fs.length = fitFs fs 0 v t := List.take_of_length_le (by omega)
      rw [hnl] at hOT
      obtain ⟨xs2, hr2⟩ := OT.row hOT
      obtain ⟨ao1, cp1, hv1⟩ := owns_shape hr2
      rw [hfl] at hv1
      subst hv1
      have HOT : Hid _ := hOT
      have UNr : Hid _ := UN wr (hk.fresh (B := []) (by simp; omega))
      have hus : ∀ x ∈ unknownFrom 0 t.u, x.1 < 4294967296 := fun x hx => hkeys x ((unknownP_spec [] t.u).2.1 x hx)
      have husl : (unknownFrom 0 t.u).length ≤ 32767 := (unknownP_spec [] t.u).2.2
      have HR0 : Hid _ := (hkeep.block (w.heap.size + 1) (by omega) (by simp)).trans HB2.out
      obtain ⟨W9, rfl⟩ : ∃ x : World, x = wr := ⟨_, rfl⟩
      clear hOT hr2 hnl hout hb0 z3 f3 UN
      go_wp2_with (go_at_call 37; go_loud (refine Calls.mono UNr.out ?_; rintro e w2 ⟨d2, rfl, hg2, k2⟩; obtain ⟨a2, p2, rfl⟩ := hg2.shape))
      generalize hus0 : unknownFrom 0 t.u = us at *
      have HUS : Hid (unknownFrom 0 t.u = us) := hus0
      clear hus0
      have hz2 := k2.size
      have HOUT2 : Hid _ := (k2.block (w.heap.size + 1 + 1) (by omega) (by simp)).trans HOUT.out
      have HR2 : Hid _ := (k2.block (w.heap.size + 1) (by omega) (by simp)).trans HR0.out
      have HGL : Hid (∀ k, (G k ∨ (W9.heap.size ≤ k ∧ k < w2.heap.size)) → k < w2.heap.size ∧ k ≠ w.heap.size + 1 + 1) := fun k hk' => by
        rcases hk' with h | h
        · have := hG k h; omega
        · omega
      clear t0 t1 t2 t3 t4
      go_loopw [37] (fun k wq => ∃ m : Nat, m ≤ us.length ∧ k = .int .i64 (m : Int) ∧ ∃ u, wq.heap[w.heap.size + 1 + 1]? = some (.cells #[.int .i64 0, .slice none 0 0, .bool false, .slice ao1 fs.length cp1, u] 26 (0, 0)) ∧ OG wq w2.heap.size 61 (New (fun k => G k ∨ (W9.heap.size ≤ k ∧ k < w2.heap.size)) w2 wq) u ((us.map fun x => (x.1, whole x.2)).take m) ∧ Keep [w.heap.size + 1 + 1] w2 wq) (fun k _ => us.length - (intOf k).toNat)
      case atStart => exact ⟨0, Nat.zero_le _, rfl, _, HOUT2.out, by simpa using OG.nil _ _ _ _, Keep.refl _ _⟩
      case round =>
        obtain ⟨wq, rfl⟩ : ∃ x : World, x = wr := ⟨_, rfl⟩
        obtain ⟨m, hm, rfl, u, hout, hOG, hkq⟩ := hrel
        have hzq := hkq.size
        have z4 : wq.cell? ⟨w.heap.size + 1 + 1, 4, none⟩ = some u := cellOf hout 4 _ rfl
        have f4 : wq.frozen? ⟨w.heap.size + 1 + 1, 4, none⟩ = false := freeOf hout 4
        have hbt' : w.heap.size + 1 + 1 < wq.heap.size := by omega
        have HOUT3 : Hid _ := hout
        have HSG : Hid (SameOn (fun k => G k ∨ (W9.heap.size ≤ k ∧ k < w2.heap.size)) w2 wq) := fun k hk' => hkq.block k (HGL.out k hk').1 (by have := (HGL.out k hk').2; simpa using this)
        by_cases hlt : m < us.length
        · obtain ⟨tb, tf, av, pv, e, hGb, c0, c1, hrb, hrl⟩ := (hg2.keepF HSG.out (fun _ h => h)).elem hlt
          cases e
          have hk32 := hus _ (List.getElem_mem hlt)
          have htbl : tb < wq.heap.size := by have := (HGL.out tb hGb).1; omega
          have WH := fun W (hW : Keep [] wq W) => whole_any (w := W) (hrb.keepF (fun k hk' => hW.block k (by have := (HGL.out k hk').1; omega) (by simp)) (fun _ h => h)) (by omega)
          have hgx : ((us.map fun x => (x.1, whole x.2))[m]'(by simpa using hlt)) = (us[m].1, whole us[m].2) := by simp
          have hwl := whole_len us[m].2
          clear hrb hout
          generalize us[m].1 = key at *
          generalize us[m].2 = vl at *
          generalize whole vl = wo at *
          have HXN : Hid _ := hgx
          clear hgx
          have hlen : ((us.map fun x => (x.1, whole x.2)).take m).length = m := by simp; omega
          have HLEN : Hid _ := hlen
          have HLT : Hid (m < (us.map fun x => (x.1, whole x.2)).length) := by show _ < _; simpa using hlt
          clear hlen
          go_wp2_with fail
          clear c0 c1
          go_region_law (first
            | (refine step_call (by rfl) 38 #[.tmp 46] #[22] (by rfl) #[.slice av vl.length pv] (by simp [go_sem]) _ (by rfl) whole_body whole_name (WH _ ((keep_box _).drew)) ?_; rintro e w4 ⟨d3, rfl, hd3, hw4⟩; obtain ⟨a3, p3, rfl⟩ := RS.shape hd3; refine ⟨_, rfl, ?_⟩; have kx : Keep [] wq w4 := (by rw [← hw4]; exact (keep_box _).drew); have hz4a : wq.heap.size + 1 ≤ w4.heap.size := (by rw [← hw4]; simp); have hz4b : w4.heap.size ≤ wq.heap.size + 1 := (by rw [← hw4]; simp); have hbx : w4.heap[wq.heap.size]? = some (.cells #[.int .u32 (key : Int), .slice av vl.length pv] 61) := (by rw [← hw4]; exact heap_alloc_new wq _); have ea0 := cellOf hbx 0 _ rfl; have ea1 := cellOf hbx 1 _ rfl; have y4 := kx.cs z4; have yf := (kx.frozen (p := ⟨w.heap.size + 1 + 1, 4, none⟩) hbt').trans f4; have hlt2 : w.heap.size + 1 + 1 < w4.heap.size := (by omega); have HD3 : Hid _ := hd3; clear hw4 hbx hd3)
            | (obtain ⟨cs, e1, e2, e3, e6, e4⟩ := hOG.keepF (w' := w4.alloc (.cells #[.int .u32 (key : Int), .slice a3 wo.length p3] 61)) (G' := New (fun k => G k ∨ (W9.heap.size ≤ k ∧ k < w2.heap.size)) w2 (w4.alloc (.cells #[.int .u32 (key : Int), .slice a3 wo.length p3] 61))) (fun k hk' => (kx.alloc _).block k hk'.2 (by simp)) (fun k hk' => ⟨hk'.1, by simp; have := hk'.2; omega⟩) (fun k e => by obtain ⟨xs, hr⟩ := hOG.row; have := hr.lt k e; exact (kx.alloc _).block k this.2 (by simp)); refine step_append_lies _ (by rfl) (.tmp 42) (.tmp 49) _ (by rfl) w2.heap.size 61 j0 _ 2 32 Try.underlying24 hj hy0 hy1 hy2 rfl (by omega) u _ _ (by rfl) e4 ⟨w4.heap.size, 0, none⟩ 1 1 [.int .u32 (key : Int), .slice a3 wo.length p3] (by rfl) (by rfl) (World.news_of_block (cs := #[.int .u32 (key : Int), .slice a3 wo.length p3]) (heap_alloc_new w4 _)) (by intro y hy; simp at hy; rcases hy with rfl | rfl <;> rfl) (by omega) (by unfold maxLen; rw [HLEN.out]; omega) (by rw [HLEN.out]; omega) (by simp; omega) (w4.heap.size + 1) (by simp) ?_; intro g cap w3 hown1 hgr hat hlt3; have nb := hOG.off (k := w.heap.size + 1 + 1) (by omega); have x1 := hgr.block (w.heap.size + 1 + 1) (by simp; omega) nb; have x2 := (kx.alloc (.cells #[.int .u32 (key : Int), .slice a3 wo.length p3] 61)).block _ hbt' List.not_mem_nil; have x3 := (x1.trans x2).trans HOUT3.out; have z5 := cellOf x3 4 _ rfl; have f5 := freeOf x3 4; clear x1 x2))
          all_goals (go_wp2; go_roundw; (case rel => (refine ⟨m + 1, by omega, by go_num, _, heap_set x3 _, ?_⟩; obtain ⟨xs0, hrow0⟩ := hOG.row; have hG3 := fit_round2 (b := w.heap.size + 1 + 1) (i := 4) (u := .slice (some ⟨g, 0, none⟩) (m + 1) cap) (x := (key, wo)) (vx := .slice a3 wo.length p3) HGL.out (by omega) (Nat.le_refl _) hkq (kx.alloc _) (RB.keepF HD3.out (fun k hk' => (kx.block k (by have := (HGL.out k hk').1; omega) (by simp)).symm) (fun _ h => h)) ⟨hk32, (show wo.length ≤ _ by omega)⟩ (fun k e => (hrow0.lt k e.symm).1) e1 e2 e3 (by rw [HLEN.out]; omega) (by rw [HLEN.out] at hown1 ⊢; exact hown1) hgr (by simpa using hat); rw [HLEN.out] at hG3; rw [List.take_succ_eq_append_getElem HLT.out, HXN.out]; exact hG3)); (case measure => (simp [intOf]; omega)))
        · have hnl : (us.map fun x => (x.1, whole x.2)).take m = us.map fun x => (x.1, whole x.2) := List.take_of_length_le (by simp; omega)
          rw [hnl] at hOG
          obtain ⟨xs3, hr3⟩ := hOG.row
          obtain ⟨ao2, cp2, hv2⟩ := owns_shape hr3
          rw [List.length_map] at hv2
          subst hv2
          have z0 : wq.cell? ⟨w.heap.size + 1 + 1, 0, none⟩ = some _ := cellOf hout 0 _ rfl
          have z1 : wq.cell? ⟨w.heap.size + 1 + 1, 1, none⟩ = some _ := cellOf hout 1 _ rfl
          have z2 : wq.cell? ⟨w.heap.size + 1 + 1, 2, none⟩ = some _ := cellOf hout 2 _ rfl
          have z3 : wq.cell? ⟨w.heap.size + 1 + 1, 3, none⟩ = some _ := cellOf hout 3 _ rfl
          have hR := (hkq.block (w.heap.size + 1) (by omega) (by simp)).trans HR2.out
          have r0 : wq.cell? ⟨w.heap.size + 1, 0, none⟩ = some _ := cellOf hR 0 _ rfl
          have q0 := freeOf hR 0
          have r1 : wq.cell? ⟨w.heap.size + 1, 1, none⟩ = some _ := cellOf hR 1 _ rfl
          have q1 := freeOf hR 1
          have r2 : wq.cell? ⟨w.heap.size + 1, 2, none⟩ = some _ := cellOf hR 2 _ rfl
          have q2 := freeOf hR 2
          have r3 : wq.cell? ⟨w.heap.size + 1, 3, none⟩ = some _ := cellOf hR 3 _ rfl
          have q3 := freeOf hR 3
          have r4 : wq.cell? ⟨w.heap.size + 1, 4, none⟩ = some _ := cellOf hR 4 _ rfl
          have q4 := freeOf hR 4
          have HRQ : Hid _ := hR
          have hll : (fitFs fs 0 v t).length ≤ 1099511627776 := by omega
          have KQ : Hid (Keep [w.heap.size + 1 + 1] W9 wq) := (k2.weaken (by simp)).trans hkq
          have KR : Keep [] w wq := (hk.trans KQ.out).fresh (by simp; omega)
          have hsz9 := KR.size
          have hOT2 : OT wq W3.heap.size 26 (New G W3 wq) (.slice ao1 fs.length cp1) (fitFs fs 0 v t) := OT.lift (b := w.heap.size + 1 + 1) HOT.out hG (by omega) (by omega) (Nat.le_refl _) KQ.out
          have hOG2 : OG wq w2.heap.size 61 (New G W3 wq) (.slice ao2 us.length cp2) (us.map fun x => (x.1, whole x.2)) := OG.keepF hOG (fun _ _ => rfl) (fun k hk2 => ⟨hk2.1.elim (fun h => h.elim .inl (fun h => .inr (by omega))) (fun h => .inr (by omega)), hk2.2⟩) (fun _ _ => rfl)
          have HT2 : Hid _ := hOT2
          have HG2 : Hid _ := hOG2
          clear hOG hr3 hnl hout hR hOT2 hOG2
          go_wp2_with fail
          clear z0 z1 z2 z3 z4 f4
          have hr : (((((wq.setCell ⟨w.heap.size + 1, 0, none⟩ (.int .i64 0)).setCell ⟨w.heap.size + 1, 1, none⟩ (.slice none 0 0)).setCell ⟨w.heap.size + 1, 2, none⟩ (.bool false)).setCell ⟨w.heap.size + 1, 3, none⟩ (.slice ao1 fs.length cp1)).setCell ⟨w.heap.size + 1, 4, none⟩ (.slice ao2 us.length cp2)).heap[w.heap.size + 1]? = some (.cells #[.int .i64 0, .slice none 0 0, .bool false, .slice ao1 fs.length cp1, .slice ao2 us.length cp2] 26 (0, 0)) := (tset5 (o := 0) HRQ.out).1
          have kr : Keep [w.heap.size + 1] wq (((((wq.setCell ⟨w.heap.size + 1, 0, none⟩ (.int .i64 0)).setCell ⟨w.heap.size + 1, 1, none⟩ (.slice none 0 0)).setCell ⟨w.heap.size + 1, 2, none⟩ (.bool false)).setCell ⟨w.heap.size + 1, 3, none⟩ (.slice ao1 fs.length cp1)).setCell ⟨w.heap.size + 1, 4, none⟩ (.slice ao2 us.length cp2)) := (tset5 (o := 0) HRQ.out).2
          clear r0 q0 r1 q1 r2 q2 r3 q3 r4 q4
          generalize (((((wq.setCell ⟨w.heap.size + 1, 0, none⟩ (.int .i64 0)).setCell ⟨w.heap.size + 1, 1, none⟩ (.slice none 0 0)).setCell ⟨w.heap.size + 1, 2, none⟩ (.bool false)).setCell ⟨w.heap.size + 1, 3, none⟩ (.slice ao1 fs.length cp1)).setCell ⟨w.heap.size + 1, 4, none⟩ (.slice ao2 us.length cp2)) = ws at *
          have r0 : ws.cell? ⟨w.heap.size + 1, 0, none⟩ = some (.int .i64 0) := cellOf hr 0 _ rfl
          have r1 : ws.cell? ⟨w.heap.size + 1, 1, none⟩ = some (.slice none 0 0) := cellOf hr 1 _ rfl
          have r2 : ws.cell? ⟨w.heap.size + 1, 2, none⟩ = some (.bool false) := cellOf hr 2 _ rfl
          have r3 : ws.cell? ⟨w.heap.size + 1, 3, none⟩ = some (.slice ao1 fs.length cp1) := cellOf hr 3 _ rfl
          have r4 : ws.cell? ⟨w.heap.size + 1, 4, none⟩ = some (.slice ao2 us.length cp2) := cellOf hr 4 _ rfl
          have KS : Keep [w.heap.size + 1] w ws := (KR.weaken (by simp)).trans kr
          have hsz := KS.size
          refine bodyPost_ret (v := .agg #[.int .i64 0, .slice none 0 0, .bool false, .slice ao1 fs.length cp1, .slice ao2 us.length cp2]) (by simp [results, Try.results15, go_sem, r0, r1, r2, r3, r4]) rfl ⟨[.int .i64 0, .slice none 0 0, .bool false, .slice ao1 fs.length cp1, .slice ao2 us.length cp2], rfl, ?_, KS.fresh (by first | (simp; done) | (simp; omega))⟩
          rw [HUS.out]
          exact fit_end hG (W3 := W3) (by omega) (by omega) HT2.out (Nat.le_refl _) HG2.out (by omega) (by decide) (by decide) hll (fun k hk2 => kr.block k hk2.2 (by
              rcases hk2.1 with h | h
              · have := hG k h; simp; omega
              · simp; omega)) kr.size
end Go.Proofs.Ytidebamgmbdnaaa
