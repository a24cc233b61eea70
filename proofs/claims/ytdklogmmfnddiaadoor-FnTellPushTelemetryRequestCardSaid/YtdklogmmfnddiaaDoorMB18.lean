/-
  spec.part where the version is flexible, of fields without tags.
-/
import Derived.Test.YtdklogmmfnddiaaDoorMB4
import Derived.Test.YtdklogmmfnddiaaDoorMB17
import Derived.Test.YtdklogmmfnddiaaDoorMB12
import Derived.Test.YtdklogmmfnddiaaDoorMB14
import Derived.Test.YtdklogmmfnddiaaDoorMB1
import Derived.OrdersHeld
import Derived.Deep.RegionHeld
namespace Go.Proofs.YtdklogmmfnddiaaDoor
open Go.ChangeShapes Go.WideShapes Go.ChangeAt Go.RowKit

theorem noTags_un : ∀ {fs : List F}, noTags fs = true → untagged fs = true
  | [], _ => rfl
  | f :: r, h => by
    simp only [noTags, Bool.and_eq_true] at h
    simp only [untagged, Bool.and_eq_true]
    exact ⟨h.1, noTags_un h.2⟩
set_option maxHeartbeats 1000000 in
set_option maxRecDepth 100000 in
theorem part_flex {fs : List F} {v : Int} (hno : noTags fs = true) (hfs : ∀ f ∈ fs, FieldSaid f v true) : PartSaid fs v true := by
  intro G vs t c w hF ht hG hb
  have HB : Hid _ := hb
  have hFb := hF.bd
  obtain ⟨aF, pF, rfl, hpF⟩ := hF.shape
  obtain ⟨az, ps, al, pl, au, pu, rfl, hs, hl, hu, hn1, hn2, hn3, hn4⟩ := ht.cells
  have AT := fun W (hW : Keep [] w W) i => at_any (ht.keepF (hG.same hW) (fun _ h => h)) (hG.keep hW) i
  have KN := fun W (hW : Keep [] w W) => known_any (hF.keepF (hG.same hW) (fun _ h => h)) (hG.keep hW) hno
  have UN := fun W (hW : Keep [] w W) => unknown_any (hF.keepF (hG.same hW) (fun _ h => h)) (hu.keepF (hG.same hW) (fun _ h => h)) (hG.keep hW) hno
  have hkeys : ∀ x ∈ t.u, x.1 < 4294967296 := by obtain ⟨_, _, _, h3, _⟩ := hu; exact fun x hx => (h3 x hx).1
  have HPL : Hid (plainTo fs v true t fs.length ++ (uvarP (tdU fs t.u).length ++ ((tdU fs t.u).map tagP).flatten) = partP fs v true t) := Lib.hid (by rw [partP_untagged (noTags_un hno), plainTo_all, plainAt_eq fs 0 v true t (noTags_un hno)]; rfl)
  have HTU : Hid (tdU fs t.u = (unknownFrom 0 t.u).map fun x => (x.1, whole x.2)) := Lib.hid (by unfold tdU unknownP; rw [show knownP fs = 0 from known0 fs 0 (noTags_un hno)])
  clear hb hs hl hu
  go_enter Tryd.func25, Tryd.ntmps25
  go_wp2_with fail
  go_loopw [9, 23] (fun o k wr => ∃ n : Nat, n ≤ fs.length ∧ k = .int .i64 n ∧ OB wr (w.heap.size + 1) o (plainTo fs v true t n) ∧ Keep [] (w.alloc (.cells (tcells t az ps al pl au pu) 26)) wr) (fun _ k _ => fs.length - (intOf k).toNat)
  case atStart => exact ⟨0, Nat.zero_le _, rfl, by simpa [plainTo] using OB.nil _ _, Keep.refl _ _⟩
  case round =>
    obtain ⟨n, hn, rfl, hown, hkeep⟩ := hrel
    have hk := (keep_box _).trans hkeep
    have hbox : wr.heap[w.heap.size]? = some (.cells (tcells t az ps al pl au pu) 26) := by
      rw [hkeep.block _ (by simp) (by simp)]
      exact heap_alloc_new w _
    obtain ⟨r0, r1, r2, r3, r4⟩ := tbox hbox
    have HBX : Hid _ := hbox
    have hBr : w.heap.size + 1 ≤ wr.heap.size := by have := hkeep.size; simp at this; omega
    have hGr := hG.keep hk
    clear hbox
    by_cases hlt : n < fs.length
    · obtain ⟨b, o, cp, cf, e, hcp, hGb, hc, hcell⟩ := (hF.keepF (hG.same hk) (fun _ h => h)).elem hlt
      cases e
      have FS := hfs fs[n] (List.getElem_mem hlt)
      have hsucc := plainTo_succ fs v true t n hlt
      have hle := plainTo_le fs v true t (n + 1)
      obtain ⟨aS, pS, rfl, hsub⟩ := hc.cells
      have hblt : b < wr.heap.size := hGr b hGb
      have hbw : b < w.heap.size := hG b hGb
      have c0 : wr.cell? ⟨b, o + n * 8, none⟩ = some _ := hcell 0 (by simp)
      have c1 : wr.cell? ⟨b, o + n * 8 + 1, none⟩ = some _ := hcell 1 (by simp)
      have c2 : wr.cell? ⟨b, o + n * 8 + 2, none⟩ = some _ := hcell 2 (by simp)
      have c3 : wr.cell? ⟨b, o + n * 8 + 3, none⟩ = some _ := hcell 3 (by simp)
      have c4 : wr.cell? ⟨b, o + n * 8 + 4, none⟩ = some _ := hcell 4 (by simp)
      have c5 : wr.cell? ⟨b, o + n * 8 + 5, none⟩ = some _ := hcell 5 (by simp)
      have c6 : wr.cell? ⟨b, o + n * 8 + 6, none⟩ = some _ := hcell 6 (by simp)
      have c7 : wr.cell? ⟨b, o + n * 8 + 7, none⟩ = some _ := hcell 7 (by simp)
      simp only [List.getElem_cons_zero, List.getElem_cons_succ] at c0 c1 c2 c3 c4 c5 c6 c7
      clear hcell
      generalize hfn : fs[n] = f at *
      have HFN : Hid (fs[n] = f) := hfn
      have HS : Hid _ := hsucc
      have HLE : Hid _ := hle
      clear hfn hsucc hle
      have HAS := fun W (hW : Keep [] wr W) => has_any (hc.keepF (hGr.same hW) (fun _ h => h)) v
      by_cases h1 : f.tag < 0
      · cases hhas : f.has v
        · rw [hhas] at HAS
          have HH : Hid (f.has v = false) := hhas
          clear hhas
          go_wp2_with (go_at_call 33; refine (HAS _ (keep_box _)).mono ?_; rintro e wh ⟨rfl, hkh⟩)
          go_roundw
          case rel =>
            refine ⟨n + 1, by omega, by go_num, ?_, hkeep.trans ((keep_box _).trans hkh)⟩
            have e1 := HS.out
            rw [HH.out] at e1
            simp at e1
            rw [e1]
            exact hown.keep ((keep_box _).trans hkh)
          case measure => simp [intOf]; omega
        · rw [hhas] at HAS
          have HH : Hid (f.has v = true) := hhas
          clear hhas
          have hlen : (plainTo fs v true t n).length + (fieldP f v true (atT t n)).length ≤ 36000000000000 := by
            have e1 := HS.out
            rw [HH.out] at e1
            simp [h1] at e1
            have e2 := HLE.out
            have e3 := HB.out
            rw [e1, List.length_append] at e2
            omega
          have HLN : Hid _ := hlen
          clear hlen
          go_wp2_with (go_at_call 33; refine (HAS _ (keep_box _)).mono ?_; rintro e wh ⟨rfl, hkh⟩; clear c0 c1 c2 c3 c4 c5 c6 c7 r0 r1 r2 r3 r4)
          have kh : Keep [] wr wh := (keep_box _).trans hkh
          have hb1 := oneBox hkh
          have hb2 : wh.heap[w.heap.size]? = some (.cells (tcells t az ps al pl au pu) 26) := (kh.block _ (by omega) (by simp)).trans HBX.out
          have hS := FTS.of hb1 hb2
          have HB1 : Hid _ := hb1
          have HB2 : Hid _ := hb2
          clear hb1 hb2
          have hwh : wr.heap.size + 1 ≤ wh.heap.size := by have := hkh.size; simp at this; omega
          go_region_held3 (fun w' => w'.cell? ⟨wr.heap.size, 0, none⟩ = some (.int .i64 f.kind) ∧ w'.cell? ⟨wr.heap.size, 1, none⟩ = some (.int .i64 f.frm) ∧ w'.cell? ⟨wr.heap.size, 2, none⟩ = some (.int .i64 f.to) ∧ w'.cell? ⟨wr.heap.size, 3, none⟩ = some (.int .i64 f.nul) ∧ w'.cell? ⟨wr.heap.size, 4, none⟩ = some (.int .i64 f.tag) ∧ w'.cell? ⟨wr.heap.size, 5, none⟩ = some (.int .i64 f.dfl) ∧ w'.cell? ⟨wr.heap.size, 6, none⟩ = some (.int .i64 f.ofk) ∧ w'.cell? ⟨wr.heap.size, 7, none⟩ = some (.slice aS f.sub.length pS) ∧ w'.cell? ⟨w.heap.size, 0, none⟩ = some (.int .i64 t.n) ∧ w'.cell? ⟨w.heap.size, 1, none⟩ = some (.slice az t.s.length ps) ∧ w'.cell? ⟨w.heap.size, 2, none⟩ = some (.bool t.null) ∧ w'.cell? ⟨w.heap.size, 3, none⟩ = some (.slice al t.l.length pl) ∧ w'.cell? ⟨w.heap.size, 4, none⟩ = some (.slice au t.u.length pu)) (exact hS) (first
            | (go_at_call 26; refine (AT _ (hk.trans (kh.trans (Keep.refl _ _).drew)) n).mono ?_; rintro e wx ⟨c', rfl, hc', kx⟩; obtain ⟨az', ps', al', pl', au', pu', rfl, _⟩ := hc'.cells; have kX : Keep [] wh wx := (Keep.refl _ _).drew.trans kx; have hS := FTS.of ((kX.block _ (by omega) (by simp)).trans HB1.out) ((kX.block _ (by omega) (by simp)).trans HB2.out))
            | (go_at_call 45; refine (FS G _ _ _ _ (hc.keepF (hGr.same (kh.trans kX)) (fun _ h => h)) hc' (hGr.keep (kh.trans kX)) (by have := HLN.out; omega)).mono ?_; rintro e wy ⟨d, rfl, hd, ky⟩; have kY : Keep [] wh wy := kX.trans ky; have hS := FTS.of ((kY.block _ (by omega) (by simp)).trans HB1.out) ((kY.block _ (by omega) (by simp)).trans HB2.out))
            | (refine app_step (by rfl) (.tmp 36) (.tmp 43) (by rfl) (w.heap.size + 1) _ (plainTo fs v true t n) (by rfl) (hown.keep (kh.trans kY)) _ _ _ (by rfl) hd.rb (by have := HLN.out; omega) (Nat.le_trans hBr (kh.trans kY).size) ?_; intro v' w3 ho hg; have hk3 := (hkeep.trans (kh.trans kY)).grown hg (fun k e => .inr (by have := ((hown.keep (kh.trans kY)).lt k e).1; simp; omega)); have hsy := kY.size; have hS := FTS.of ((hg.block wr.heap.size (by omega) (fun e => by have := (hown.lt _ e.symm).2; omega)).trans ((kY.block _ (by omega) (by simp)).trans HB1.out)) ((hg.block w.heap.size (by omega) (fun e => by have := (hown.lt _ e.symm).1; omega)).trans ((kY.block _ (by omega) (by simp)).trans HB2.out))))
          go_wp2
          go_roundw
          case rel =>
            refine ⟨n + 1, by omega, by go_num, ?_, hk3⟩
            have e1 := HS.out
            rw [HH.out] at e1
            simp [h1] at e1
            rw [e1]
            exact ho
          case measure => simp [intOf]; omega
      · go_wp2_with fail
        go_roundw
        case rel =>
          refine ⟨n + 1, by omega, by go_num, ?_, hkeep.trans (keep_box _)⟩
          have e1 := HS.out
          simp [h1] at e1
          rw [e1]
          exact hown.keep (keep_box _)
        case measure => simp [intOf]; omega
    · obtain rfl : n = fs.length := by omega
      have hK1 := fun W (hW : Keep [] wr W) => KN W (hk.trans hW)
      have hU1 := fun W (hW : Keep [] wr W) => UN W (hk.trans hW)
      obtain ⟨wo, rfl⟩ : ∃ x : World, x = wr := ⟨_, rfl⟩
      clear KN UN hF ht
      go_wp2_with (go_at_call 46; go_loud (refine (hK1 _ (Keep.refl _ _)).mono ?_; rintro e w1 ⟨rfl, k1⟩))
      go_loopw [52, 10, 11] (fun k tv mv wr => k = .int .i64 0 ∧ tv = .slice none 0 0 ∧ mv = .int .i64 0 ∧ w1 = wr) (fun _ _ _ _ => 0)
      case atStart => exact ⟨rfl, rfl, rfl, rfl⟩
      case round =>
        obtain ⟨rfl, rfl, rfl, rfl⟩ := hrel
        have q3 := ((k1.cell (p := ⟨w.heap.size, 4, none⟩) (by simp; omega) (by simp)).trans r4)
        have HU1 : Hid _ := Lib.hid (hU1 w1 k1)
        clear hU1 hK1 r0 r1 r2 r3 r4
        go_wp2_with (go_at_call 37; go_loud (refine Calls.mono HU1.out ?_; rintro e w2 ⟨d2, rfl, hg2, k2⟩; obtain ⟨a2, p2, rfl⟩ := hg2.shape))
        have hus : ∀ x ∈ unknownFrom 0 t.u, x.1 < 4294967296 := fun x hx => hkeys x ((unknownP_spec [] t.u).2.1 x hx)
        have husl : (unknownFrom 0 t.u).length ≤ 32767 := (unknownP_spec [] t.u).2.2
        have HTU2 : Hid _ := Lib.hid HTU.out
        clear HTU hkeys
        generalize unknownFrom 0 t.u = us at *
        have hBt : ∀ n, ((((us.map fun x => (x.1, whole x.2)).take n).map tagP).flatten).length ≤ 36000000000000 := fun n => by
          have e1 := HPL.out
          have e2 := HB.out
          rw [← e1, HTU2.out] at e2
          have e3 : ((us.map fun x => (x.1, whole x.2)).map tagP).flatten = ((((us.map fun x => (x.1, whole x.2)).take n).map tagP).flatten) ++ ((((us.map fun x => (x.1, whole x.2)).drop n).map tagP).flatten) := by
            rw [← List.flatten_append, ← List.map_append, List.take_append_drop]
          rw [e3] at e2
          simp only [List.length_append] at e2
          omega
        have HBT : Hid _ := Lib.hid hBt
        have hG2 : There (fun k => G k ∨ (w1.heap.size ≤ k ∧ k < w2.heap.size)) w2 := fun k hk => by
          rcases hk with h | h
          · have a1 := hGr k h
            have a2 := k1.size
            have a3 := k2.size
            omega
          · exact h.2
        clear hBt
        go_loopw [102, 10, 11] (fun k tv mv wr => ∃ n : Nat, n ≤ us.length ∧ k = .int .i64 (n : Int) ∧ mv = .int .i64 (n : Int) ∧ OB wr w2.heap.size tv ((((us.map fun x => (x.1, whole x.2)).take n).map tagP).flatten) ∧ Keep [] w2 wr) (fun k _ _ _ => us.length - (intOf k).toNat)
        case atStart => exact ⟨0, Nat.zero_le _, rfl, rfl, by simpa using OB.nil _ _, Keep.refl _ _⟩
        case round =>
          obtain ⟨wq, rfl⟩ : ∃ x : World, x = wr := ⟨_, rfl⟩
          obtain ⟨n, hn, rfl, rfl, hot, kq⟩ := hrel
          have hzq := kq.size
          by_cases hlt : n < us.length
          · obtain ⟨tb, tf, av, pv, e, hGb, c0, c1, hrb, hrl⟩ := (hg2.keepF (hG2.same kq) (fun _ h => h)).elem hlt
            cases e
            have hk32 := hus _ (List.getElem_mem hlt)
            have htbl := hG2.keep kq tb hGb
            have WH := fun W (hW : Keep [] wq W) => whole_any (w := W) (hrb.keepF ((hG2.keep kq).same hW) (fun _ h => h)) (by omega)
            have hsuc : (((us.map fun x => (x.1, whole x.2)).take (n + 1)).map tagP).flatten = (((us.map fun x => (x.1, whole x.2)).take n).map tagP).flatten ++ (uvarP us[n].1 ++ uvarP (whole us[n].2).length ++ whole us[n].2) := by
              rw [List.take_succ_eq_append_getElem (by simpa using hlt)]
              simp [tagP]
            have hbn := HBT.out (n + 1)
            rw [hsuc] at hbn
            simp only [List.length_append] at hbn
            have HSUC : Hid _ := Lib.hid hsuc
            have hwl := whole_len us[n].2
            clear hsuc hrb
            generalize hkey : us[n].1 = key at *
            generalize hsl : us[n].2.length = sl at *
            generalize hwo : whole us[n].2 = wo2 at *
            generalize hacc : (((us.map fun x => (x.1, whole x.2)).take n).map tagP).flatten = acc at *
            clear hkey hsl hwo hacc
            have tok1 : Hid True := Lib.hid trivial
            go_wp2_with (first
              | (go_at_call 39; go_loud (refine (WH _ (keep_box _)).mono ?_; rintro e wx ⟨d3, rfl, hd3, rfl⟩; obtain ⟨a3, p3, rfl⟩ := RS.shape hd3; have hB0 := (keep_box (A := []) (w := wq) (.cells #[.int .u32 (key : Int), .slice av sl pv] 64)); clear c0 c1))
              | (go_at_call 47; have _t := tok1; go_loud (refine (uvar_any key (by omega) _).mono ?_; rintro e w3 ⟨d4, rfl, h4, k4⟩; have K4 := hB0.trans k4; have hz4 := K4.size; clear tok1 _t; have tok2 : Hid True := Lib.hid trivial))
              | (at_builtin; have _t := tok2; go_loud (refine app_ob rfl (.tmp 109) (.tmp 113) rfl w2.heap.size _ acc rfl (hot.keep K4) _ (uvarP key) _ rfl h4.rb (by omega) (by omega) ?_; intro v5 w5 h5 g5; have K5 : Keep [] w2 w5 := grow_keep (kq.trans K4) (hot.keep K4) (Nat.le_refl _) g5; have hz5 := K5.size; clear tok2 _t; have tok3 : Hid True := Lib.hid trivial))
              | (go_at_call 47; have _t := tok3; go_loud (refine (uvar_any wo2.length (by omega) _).mono ?_; rintro e w6 ⟨d6, rfl, h6, k6⟩; have K6 := K5.trans k6; have hz6 := K6.size; clear tok3 _t; have tok4 : Hid True := Lib.hid trivial))
              | (at_builtin; have _t := tok4; go_loud (refine app_ob rfl (.tmp 114) (.tmp 118) rfl w2.heap.size _ (acc ++ uvarP key) rfl (h5.keep k6) _ (uvarP wo2.length) _ rfl h6.rb (by simp only [List.length_append]; omega) (by omega) ?_; intro v7 w7 h7 g7; have K7 : Keep [] w2 w7 := grow_keep K6 (h5.keep k6) (Nat.le_refl _) g7; have hz7 := K7.size; have SM : SameOn (fun k => G k ∨ (w1.heap.size ≤ k ∧ k < w2.heap.size)) w2 w7 := hG2.same K7; clear tok4 _t; have tok5 : Hid True := Lib.hid trivial))
              | (at_builtin; have _t := tok5; go_loud (refine app_ob rfl (.tmp 119) (.tmp 120) rfl w2.heap.size _ ((acc ++ uvarP key) ++ uvarP wo2.length) rfl h7 _ wo2 _ rfl (hd3.keepF (fun k hk => (SM k hk).trans (((hG2.same (kq.trans hB0)) k hk).symm)) (fun _ h => h)) (by simp only [List.length_append]; omega) (by omega) ?_; intro v8 w8 h8 g8; have K8 : Keep [] w2 w8 := grow_keep K7 h7 (Nat.le_refl _) g8; clear tok5 _t)))
            go_roundw
            case rel => exact ⟨n + 1, by omega, by go_num, by go_num, by rw [HSUC.out, ← List.append_assoc, ← List.append_assoc]; exact h8, K8⟩
            case measure => simp [intOf]; omega
          · obtain rfl : n = us.length := by omega
            have hall : (((us.map fun x => (x.1, whole x.2)).take us.length).map tagP).flatten = ((us.map fun x => (x.1, whole x.2)).map tagP).flatten := by
              rw [List.take_of_length_le (by simp)]
            rw [hall] at hot
            have HALL : Hid _ := Lib.hid hot
            have hb2 := HBT.out us.length
            rw [hall] at hb2
            have hpl := HPL.out
            rw [HTU2.out, List.length_map] at hpl
            have HPL2 : Hid _ := Lib.hid hpl
            have hbb : (plainTo fs v true t fs.length).length + ((uvarP us.length).length + (((us.map fun x => (x.1, whole x.2)).map tagP).flatten).length) ≤ 36000000000000 := by
              have e := HB.out
              rw [← hpl] at e
              simpa only [List.length_append] using e
            have hoo := hown.keep (k1.trans (k2.trans kq))
            have HGK : Hid _ := Lib.hid (fun k e => hown.lt k e)
            clear hall hot hpl hb2 hown
            generalize ((us.map fun x => (x.1, whole x.2)).map tagP).flatten = tg at *
            generalize plainTo fs v true t fs.length = pl0 at *
            have hz1 := k1.size
            have hz2 := k2.size
            have tok1 : Hid True := Lib.hid trivial
            go_wp2_with (first
              | (go_at_call 47; go_loud (refine (uvar_any us.length (by omega) _).mono ?_; rintro e w3 ⟨d4, rfl, h4, k4⟩; have hz4 := k4.size))
              | (at_builtin; have _t := tok1; go_loud (refine app_ob rfl (.tmp 125) (.tmp 128) rfl (w.heap.size + 1) _ pl0 rfl (hoo.keep k4) _ (uvarP us.length) _ rfl h4.rb (by omega) (by omega) ?_; intro v5 w5 h5 g5; have hgk := HGK.out; clear tok1 _t; have tok2 : Hid True := Lib.hid trivial))
              | (at_builtin; have _t := tok2; go_loud (refine app_ob rfl (.tmp 129) (.tmp 130) rfl (w.heap.size + 1) _ (pl0 ++ uvarP us.length) rfl h5 _ tg (fun k => w2.heap.size ≤ k ∧ k < wq.heap.size) rfl (HALL.out.rb.keepF (fun k hk => (g5.block k (by omega) (fun e => by have := hgk k e.symm; omega)).trans (k4.block k hk.2 (by simp))) (fun _ h => h)) (by simp only [List.length_append]; omega) (by have := g5.size; omega) ?_; intro v8 w8 h8 g8; clear tok2 _t)))
            go_ret
            have KZ : Keep [] w w8 := (((hk.trans (k1.trans (k2.trans (kq.trans k4)))).grown g5 (fun k e => .inr (by have := hgk k e; omega))).grown g8 (fun k e => .inr (by have := (h5.lt k e).1; omega)))
            refine ⟨_, rfl, ?_, KZ⟩
            rw [← HPL2.out, ← List.append_assoc]
            exact h8.lower (by omega)
theorem un_noTags : ∀ {fs : List F}, untagged fs = true → noTags fs = true
  | [], _ => rfl
  | f :: r, h => by
    simp only [untagged, Bool.and_eq_true] at h
    simp only [noTags, Bool.and_eq_true]
    exact ⟨h.1, un_noTags h.2⟩
mutual
theorem fieldSaid_flex (v : Int) : ∀ f, wfF true f = true → FieldSaid f v true
  | .mk k a b c d e o sub, h => by
    have hs : wfFs true sub = true := by
      simp only [wfF, Bool.and_eq_true] at h
      exact h.1.2
    exact field_any (f := .mk k a b c d e o sub) (part_flex (fs := sub) (un_noTags (wfFs_untagged hs)) (fieldsSaid_flex v sub hs))
theorem fieldsSaid_flex (v : Int) : ∀ (fs : List F), wfFs true fs = true → ∀ f ∈ fs, FieldSaid f v true
  | [], _, _, h => absurd h (by simp)
  | g :: r, hw, f, h => by
    simp only [wfFs, Bool.and_eq_true] at hw
    rcases List.mem_cons.1 h with e | h'
    · rw [e]; exact fieldSaid_flex v g hw.1
    · exact fieldsSaid_flex v r hw.2 f h'
end
/-- spec.part at the fields of every message without tagged fields -/
theorem partSaid_wf (fs : List F) (v : Int) (flex : Bool) (h : flex = true → wfFs true fs = true) : PartSaid fs v flex := by
  cases flex with
  | false => exact partSaid_plain fs v
  | true => exact part_flex (un_noTags (wfFs_untagged (h rfl))) (fieldsSaid_flex v fs (h rfl))
end Go.Proofs.YtdklogmmfnddiaaDoor
/-
  impl.octetsTree.
-/
namespace Go.Proofs.YtdklogmmfnddiaaDoor
open Go.ChangeShapes Go.WideShapes Go.ChangeAt Go.RowKit

theorem oct_eq0 : ∀ u, (Sem.run Tryd.prog (binOp .eql 22 (.slice none 0 0) (.slice none 0 0)) u) = .ok (.bool true) u := fun u => Lib.run_eql_slice_nil u 22 5 none 0 0 0 0 Tryd.underlying22
theorem oct_eq1 (a : Addr) (n cap : Nat) : ∀ u, (Sem.run Tryd.prog (binOp .eql 22 (.slice (some a) n cap) (.slice none 0 0)) u) = .ok (.bool false) u := fun u => Lib.run_eql_slice_nil u 22 5 (some a) n cap 0 0 Tryd.underlying22
theorem oct_body : Tryd.f51.body.isNone = false := by kernel_rfl
theorem oct_name : (Tryd.f51.name == "runtime.NumGoroutine") = false := by kernel_rfl
set_option maxHeartbeats 800000 in
set_option maxRecDepth 100000 in
theorem oct_any {G : Nat → Prop} {v : Value} {o : Option Bs} {w : World} (h : OS w G v o) (hG : There G w) (hl : ∀ x, o = some x → x.length ≤ 1000000) :
    Calls Tryd.prog 51 #[v] w fun e w' => ∃ c, e = .returned (.agg c.toArray) ∧ HT w' (fun k => w.heap.size ≤ k ∧ k < w'.heap.size) (octT o) c ∧ Keep [] w w' := by
  obtain ⟨hb, hn⟩ := h
  obtain ⟨ao, cap, rfl⟩ := RS.shape hb
  cases ao with
  | none =>
    obtain ⟨hl0, rfl⟩ : (o.getD []).length = 0 ∧ cap = 0 := by
      obtain ⟨_, _, e, _, h2, _⟩ := hb
      cases e
      exact ⟨(h2 rfl).1, (h2 rfl).2.1⟩
    have ho : o = none := hn.1 (by rw [hl0])
    subst ho
    clear hl0
    have heq : ∀ u, (Sem.run Tryd.prog (binOp .eql 22 (.slice none 0 0) (.slice none 0 0)) u) = .ok (.bool true) u := oct_eq0
    go_enter Tryd.func51, Tryd.ntmps51
    go_wp2_with (at_builtin; go_loud (refine app_ob rfl (.const (.slice none 0 0)) (.tmp 3) rfl (w.heap.size + 1) (.slice none 0 0) [] rfl (OB.nil _ _) _ [] (fun _ => True) rfl (RB.nil _ _) (by simp) (by simp) ?_; intro v2 w2 hob hgr; obtain ⟨a2, cp, rfl⟩ := hob.len; have k2 : Keep [] w w2 := (keep_box _).grown hgr (by simp [Value.ownBlock]); have hz2 : w.heap.size + 1 ≤ w2.heap.size := (by have := hgr.size; simpa using this); have r2 := (hgr.block w.heap.size (by simp) (by simp [Value.ownBlock])).trans (heap_alloc_new w (.cells #[.int .i64 0, .slice none 0 0, .bool false, .slice none 0 0, .slice none 0 0] 37)); have p0 : w2.cell? ⟨w.heap.size, 0, none⟩ = some (.int .i64 0) := cellOf r2 0 _ rfl; have pf0 := freeOf r2 0; have p1 : w2.cell? ⟨w.heap.size, 1, none⟩ = some (.slice none 0 0) := cellOf r2 1 _ rfl; have pf1 := freeOf r2 1; have p2 : w2.cell? ⟨w.heap.size, 2, none⟩ = some (.bool false) := cellOf r2 2 _ rfl; have pf2 := freeOf r2 2; have p3 : w2.cell? ⟨w.heap.size, 3, none⟩ = some (.slice none 0 0) := cellOf r2 3 _ rfl; have pf3 := freeOf r2 3; have p4 : w2.cell? ⟨w.heap.size, 4, none⟩ = some (.slice none 0 0) := cellOf r2 4 _ rfl; have pf4 := freeOf r2 4; have R2 : Hid _ := r2; clear r2))
    have hr : (((((w2.setCell ⟨w.heap.size, 0, none⟩ (.int .i64 0)).setCell ⟨w.heap.size, 1, none⟩ (.slice a2 0 cp)).setCell ⟨w.heap.size, 2, none⟩ (.bool true)).setCell ⟨w.heap.size, 3, none⟩ (.slice none 0 0)).setCell ⟨w.heap.size, 4, none⟩ (.slice none 0 0)).heap[w.heap.size]? = some (.cells #[.int .i64 0, .slice a2 0 cp, .bool true, .slice none 0 0, .slice none 0 0] 37 (0, 0)) := (set5 (o := 0) R2.out).1
    have kr : Keep [w.heap.size] w2 (((((w2.setCell ⟨w.heap.size, 0, none⟩ (.int .i64 0)).setCell ⟨w.heap.size, 1, none⟩ (.slice a2 0 cp)).setCell ⟨w.heap.size, 2, none⟩ (.bool true)).setCell ⟨w.heap.size, 3, none⟩ (.slice none 0 0)).setCell ⟨w.heap.size, 4, none⟩ (.slice none 0 0)) := (set5 (o := 0) R2.out).2
    clear p0 pf0 p1 pf1 p2 pf2 p3 pf3 p4 pf4
    generalize (((((w2.setCell ⟨w.heap.size, 0, none⟩ (.int .i64 0)).setCell ⟨w.heap.size, 1, none⟩ (.slice a2 0 cp)).setCell ⟨w.heap.size, 2, none⟩ (.bool true)).setCell ⟨w.heap.size, 3, none⟩ (.slice none 0 0)).setCell ⟨w.heap.size, 4, none⟩ (.slice none 0 0)) = W7 at *
    have r0 : W7.cell? ⟨w.heap.size, 0, none⟩ = some (.int .i64 0) := cellOf hr 0 _ rfl
    have r1 : W7.cell? ⟨w.heap.size, 1, none⟩ = some (.slice a2 0 cp) := cellOf hr 1 _ rfl
    have r2 : W7.cell? ⟨w.heap.size, 2, none⟩ = some (.bool true) := cellOf hr 2 _ rfl
    have r3 : W7.cell? ⟨w.heap.size, 3, none⟩ = some (.slice none 0 0) := cellOf hr 3 _ rfl
    have r4 : W7.cell? ⟨w.heap.size, 4, none⟩ = some (.slice none 0 0) := cellOf hr 4 _ rfl
    have hzr := kr.size
    refine bodyPost_ret (v := .agg #[.int .i64 0, .slice a2 0 cp, .bool true, .slice none 0 0, .slice none 0 0]) (by simp [results, Tryd.results51, go_sem, r0, r1, r2, r3, r4]) rfl ⟨[.int .i64 0, .slice a2 0 cp, .bool true, .slice none 0 0, .slice none 0 0], rfl, ?_, ((k2.weaken (by simp)).trans kr).fresh (by simp)⟩
    have hrb : RB w2 (fun k => w.heap.size + 1 ≤ k ∧ k < w2.heap.size) (.slice a2 0 cp) [] := hob.rb
    exact HT.of 0 [] true [] [] (hrb.keepF (fun k hk => kr.block k hk.2 (by have := hk.1; simp; omega)) (fun k hk => ⟨by have := hk.1; omega, by have := hk.2; omega⟩)) (HTs.nil _ _) (HGs.nil _ _) (by decide) (by decide) (by decide) (by decide)
  | some a =>
    have ho : o ≠ none := fun h => by have := hn.2 h; cases this
    obtain ⟨l, rfl⟩ : ∃ l, o = some l := by cases o with | none => exact absurd rfl ho | some l => exact ⟨l, rfl⟩
    have hll := hl l rfl
    clear hn ho hl
    simp only [Option.getD_some] at hb ⊢
    have heq : ∀ u, (Sem.run Tryd.prog (binOp .eql 22 (.slice (some a) l.length cap) (.slice none 0 0)) u) = .ok (.bool false) u := oct_eq1 _ _ _
    go_enter Tryd.func51, Tryd.ntmps51
    go_wp2_with (at_builtin; go_loud (refine app_ob rfl (.const (.slice none 0 0)) (.tmp 3) rfl (w.heap.size + 1) (.slice none 0 0) [] rfl (OB.nil _ _) _ l G rfl (hb.keepF (hG.same (keep_box _)) (fun _ h => h)) (by simp; omega) (by simp) ?_; intro v2 w2 hob hgr; obtain ⟨a2, cp, rfl⟩ := hob.len; have k2 : Keep [] w w2 := (keep_box _).grown hgr (by simp [Value.ownBlock]); have hz2 : w.heap.size + 1 ≤ w2.heap.size := (by have := hgr.size; simpa using this); have r2 := (hgr.block w.heap.size (by simp) (by simp [Value.ownBlock])).trans (heap_alloc_new w (.cells #[.int .i64 0, .slice none 0 0, .bool false, .slice none 0 0, .slice none 0 0] 37)); have p0 : w2.cell? ⟨w.heap.size, 0, none⟩ = some (.int .i64 0) := cellOf r2 0 _ rfl; have pf0 := freeOf r2 0; have p1 : w2.cell? ⟨w.heap.size, 1, none⟩ = some (.slice none 0 0) := cellOf r2 1 _ rfl; have pf1 := freeOf r2 1; have p2 : w2.cell? ⟨w.heap.size, 2, none⟩ = some (.bool false) := cellOf r2 2 _ rfl; have pf2 := freeOf r2 2; have p3 : w2.cell? ⟨w.heap.size, 3, none⟩ = some (.slice none 0 0) := cellOf r2 3 _ rfl; have pf3 := freeOf r2 3; have p4 : w2.cell? ⟨w.heap.size, 4, none⟩ = some (.slice none 0 0) := cellOf r2 4 _ rfl; have pf4 := freeOf r2 4; have R2 : Hid _ := r2; clear r2))
    have hr : (((((w2.setCell ⟨w.heap.size, 0, none⟩ (.int .i64 0)).setCell ⟨w.heap.size, 1, none⟩ (.slice a2 l.length cp)).setCell ⟨w.heap.size, 2, none⟩ (.bool false)).setCell ⟨w.heap.size, 3, none⟩ (.slice none 0 0)).setCell ⟨w.heap.size, 4, none⟩ (.slice none 0 0)).heap[w.heap.size]? = some (.cells #[.int .i64 0, .slice a2 l.length cp, .bool false, .slice none 0 0, .slice none 0 0] 37 (0, 0)) := (set5 (o := 0) R2.out).1
    have kr : Keep [w.heap.size] w2 (((((w2.setCell ⟨w.heap.size, 0, none⟩ (.int .i64 0)).setCell ⟨w.heap.size, 1, none⟩ (.slice a2 l.length cp)).setCell ⟨w.heap.size, 2, none⟩ (.bool false)).setCell ⟨w.heap.size, 3, none⟩ (.slice none 0 0)).setCell ⟨w.heap.size, 4, none⟩ (.slice none 0 0)) := (set5 (o := 0) R2.out).2
    clear p0 pf0 p1 pf1 p2 pf2 p3 pf3 p4 pf4
    generalize (((((w2.setCell ⟨w.heap.size, 0, none⟩ (.int .i64 0)).setCell ⟨w.heap.size, 1, none⟩ (.slice a2 l.length cp)).setCell ⟨w.heap.size, 2, none⟩ (.bool false)).setCell ⟨w.heap.size, 3, none⟩ (.slice none 0 0)).setCell ⟨w.heap.size, 4, none⟩ (.slice none 0 0)) = W7 at *
    have r0 : W7.cell? ⟨w.heap.size, 0, none⟩ = some (.int .i64 0) := cellOf hr 0 _ rfl
    have r1 : W7.cell? ⟨w.heap.size, 1, none⟩ = some (.slice a2 l.length cp) := cellOf hr 1 _ rfl
    have r2 : W7.cell? ⟨w.heap.size, 2, none⟩ = some (.bool false) := cellOf hr 2 _ rfl
    have r3 : W7.cell? ⟨w.heap.size, 3, none⟩ = some (.slice none 0 0) := cellOf hr 3 _ rfl
    have r4 : W7.cell? ⟨w.heap.size, 4, none⟩ = some (.slice none 0 0) := cellOf hr 4 _ rfl
    have hzr := kr.size
    refine bodyPost_ret (v := .agg #[.int .i64 0, .slice a2 l.length cp, .bool false, .slice none 0 0, .slice none 0 0]) (by simp [results, Tryd.results51, go_sem, r0, r1, r2, r3, r4]) rfl ⟨[.int .i64 0, .slice a2 l.length cp, .bool false, .slice none 0 0, .slice none 0 0], rfl, ?_, ((k2.weaken (by simp)).trans kr).fresh (by simp)⟩
    have hrb : RB w2 (fun k => w.heap.size + 1 ≤ k ∧ k < w2.heap.size) (.slice a2 l.length cp) l := hob.rb
    exact HT.of 0 l false [] [] (hrb.keepF (fun k hk => kr.block k hk.2 (by have := hk.1; simp; omega)) (fun k hk => ⟨by have := hk.1; omega, by have := hk.2; omega⟩)) (HTs.nil _ _) (HGs.nil _ _) (by decide) (by decide) (by omega) (by decide)
end Go.Proofs.YtdklogmmfnddiaaDoor
/-
  A region whose one store breaks what its loads stood on: the loads may be taken first all the same, if the store waits for them.
-/
namespace Go.Proofs.YtdklogmmfnddiaaDoor
section
variable {P : Program} {ops : Array Oper} {Q : Exit → Act → World → Prop} {md : Region.Mode} {S : World → Prop} {brk : Nat}
/-- as 'wpAnyH', but behind the operation 'brk' nothing is asked -/
def wpAnyB (P : Program) (md : Region.Mode) (ops : Array Oper) (Q : Exit → Act → World → Prop) (S : World → Prop) (brk : Nat) : Nat → Array Bool → Act → World → Prop
  | 0, listed, a, w => Region.ready md ops listed = [] ∧ Q .normal a w
  | fuel + 1, listed, a, w =>
    (Region.ready md ops listed = [] → Q .normal a w) ∧
    ∀ i ∈ Region.ready md ops listed, wpOp P ops Q i (fun a' w' => (i ≠ brk → S w') ∧ wpAnyB P md ops Q S brk fuel (listed.setIfInBounds i true) a' w') a w
theorem wpAnyB.any : ∀ (fuel : Nat) (listed : Array Bool) (a : Act) (w : World), wpAnyB P md ops Q S brk fuel listed a w → wpAny P md ops Q fuel listed a w
  | 0, _, _, _, h => h
  | fuel + 1, _, _, _, h => ⟨h.1, fun i hi => wpOp_mono (fun a' w' h' => wpAnyB.any fuel _ a' w' h'.2) (h.2 i hi)⟩
/-- a set of operations that holds i and the breaking one; each but i waits for one of the set; none has come up -/
def chainB (md : Region.Mode) (ops : Array Oper) (listed : Array Bool) (i brk : Nat) (D : List Nat) : Bool :=
  D.contains brk && D.all fun d => !listed.getD d true && (d == i || match ops[d]? with
    | some o => o.after.any fun e => Region.binds md e && D.contains e.on
    | none => false)
theorem chain_keep {listed : Array Bool} {i j : Nat} {D : List Nat} (h : chainB md ops listed i brk D = true) (hj : j ∈ Region.ready md ops listed) (hji : j ≠ i) :
    j ≠ brk ∧ chainB md ops (listed.setIfInBounds j true) i brk D = true := by
  unfold chainB at *
  simp only [Bool.and_eq_true, List.all_eq_true] at h
  obtain ⟨hb, hD⟩ := h
  have hn : j ∉ D := fun hjD => by
    obtain ⟨_, o, ho, hall⟩ := mem_ready.1 hj
    obtain ⟨_, h2⟩ := hD j hjD
    simp only [Bool.or_eq_true, beq_iff_eq, hji, false_or, ho] at h2
    obtain ⟨e, he, h3⟩ := Array.any_eq_true'.1 h2
    simp only [Bool.and_eq_true] at h3
    have h4 := hall e he h3.1
    have h5 := (hD e.on (by simpa using h3.2)).1
    simp only [Bool.not_eq_true'] at h5
    rcases Nat.lt_or_ge e.on listed.size with h' | h'
    · simp [h'] at h4 h5; rw [h4] at h5; cases h5
    · simp [Array.getElem?_eq_none h'] at h4
  have hbD : brk ∈ D := by simpa using hb
  refine ⟨fun e => hn (e ▸ hbD), ?_⟩
  simp only [Bool.and_eq_true, List.all_eq_true]
  refine ⟨hb, fun d hd => ?_⟩
  have hdj : j ≠ d := fun e => hn (e ▸ hd)
  rw [getD_set_ne true hdj]
  exact hD d hd
theorem wpAnyB_first {i : Nat} {oi : Oper} {v : Value} (hi : ops[i]? = some oi) (hsel : ∀ (j : Nat) (o : Oper) cs b, ops[j]? = some o → o.op ≠ .select cs b)
    (hQ : ∀ c a w, Q (.panic c) (a.put oi.dst v) w → Q (.panic c) a w) (D : List Nat) :
    ∀ (fuel : Nat) (listed : Array Bool) (a : Act) (w : World),
      (∀ j oj, ops[j]? = some oj → j ≠ i → listed.getD j true = false → (∀ e ∈ oj.after, Region.binds md e = true → e.on ≠ i) → oi.apart ops oj = true) →
      chainB md ops listed i brk D = true →
      i ∈ Region.ready md ops listed → YieldsIf P ops S oi v a → S w →
      wpAnyB P md ops Q S brk fuel (listed.setIfInBounds i true) (a.put oi.dst v) w → wpAnyB P md ops Q S brk (fuel + 1) listed a w := by
  intro fuel
  induction fuel with
  | zero =>
    intro listed a w _ _ hr hy hS H
    refine ⟨fun h => (by rw [h] at hr; cases hr), fun j hj => ?_⟩
    by_cases hji : j = i
    · subst hji; exact hy.wpOp hi hS ⟨fun _ => hS, H⟩
    · have := ready_mono hj hji
      rw [H.1] at this
      cases this
  | succ fuel ih =>
    intro listed a w hfree hch hr hy hS H
    refine ⟨fun h => (by rw [h] at hr; cases hr), fun j hj => ?_⟩
    by_cases hji : j = i
    · subst hji; exact hy.wpOp hi hS ⟨fun _ => hS, H⟩
    · have h1 := H.2 j (ready_mono hj hji)
      obtain ⟨hjun, oj, hoj, hall⟩ := mem_ready.1 hj
      have hnot : ∀ e ∈ oj.after, Region.binds md e = true → e.on ≠ i := fun e he hb heq => by
        have h1 := hall e he hb
        have h0 := (mem_ready.1 hr).1
        rw [heq] at h1
        rcases Nat.lt_or_ge i listed.size with h' | h'
        · simp [h'] at h0 h1; rw [h0] at h1; cases h1
        · simp [Array.getElem?_eq_none h'] at h1
      have h2 := wpOp_putIf hoj (hfree j oj hoj hji hjun hnot) (fun cs b => hsel i oi cs b hi) (fun cs b => hsel j oj cs b hoj) hQ hy h1
      obtain ⟨hjb, hch'⟩ := chain_keep hch hj hji
      have hfree' : ∀ k ok, ops[k]? = some ok → k ≠ i → (listed.setIfInBounds j true).getD k true = false →
          (∀ e ∈ ok.after, Region.binds md e = true → e.on ≠ i) → oi.apart ops ok = true := fun k ok hk hki hun hno => by
        refine hfree k ok hk hki ?_ hno
        by_cases hjk : j = k
        · subst hjk; exact hjun
        · rw [getD_set_ne true hjk] at hun; exact hun
      refine wpOp_mono (fun a' w' h3 => ⟨h3.2.1, ih (listed.setIfInBounds j true) a' w' hfree' hch' (ready_mono hr (Ne.symm hji)) h3.1 (h3.2.1 hjb) ?_⟩) h2
      rw [Array.setIfInBounds_comm _ _ hji]
      exact h3.2.2
/-- take number i first -/
theorem wpAnyB_take {i : Nat} {oi : Oper} {v : Value} (D : List Nat) {fuel : Nat} {listed : Array Bool} {a : Act} {w : World} (hi' : ops.toList[i]? = some oi)
    (hs : Region.noSelect ops = true) (hf : Region.free md ops listed i = true) (hr : (Region.ready md ops listed).contains i = true) (hc : chainB md ops listed i brk D = true)
    (hQ : ∀ c a w, Q (.panic c) (a.put oi.dst v) w → Q (.panic c) a w) (hS : S w) (hy : YieldsIf P ops S oi v a)
    (h : wpAnyB P md ops Q S brk fuel (listed.setIfInBounds i true) (a.put oi.dst v) w) : wpAnyB P md ops Q S brk (fuel + 1) listed a w :=
  have hi : ops[i]? = some oi := by simpa using hi'
  wpAnyB_first hi (Region.noSelect_spec hs) hQ D fuel listed a w (Region.free_spec hi hf) hc (by simpa using hr) hy hS h
/-- all have come up -/
theorem wpAnyB_done {listed : Array Bool} {a : Act} {w : World} (hr : Region.ready md ops listed = []) (h : Q .normal a w) :
    ∀ fuel, wpAnyB P md ops Q S brk fuel listed a w
  | 0 => ⟨hr, h⟩
  | _ + 1 => ⟨fun _ => h, by rw [hr]; simp⟩
/-- one alone may come up: it is carried out -/
theorem wpAnyB_one {k : Nat} {o : Oper} {fuel : Nat} {listed : Array Bool} {a : Act} {w : World} (ho' : ops.toList[k]? = some o) (hr : Region.ready md ops listed = [k])
    (h : ∀ K : Act → World → Prop, Shut (∀ a w, (k ≠ brk → S w) → ((k ≠ brk → S w) → wpAnyB P md ops Q S brk fuel (listed.setIfInBounds k true) a w) → K a w) →
      if Region.wanted o (yielded ops a.tmps) = true then Oper.wp P o a w K Q else K (a.put o.dst undef) w) : wpAnyB P md ops Q S brk (fuel + 1) listed a w := by
  have ho : ops[k]? = some o := by simpa using ho'
  refine ⟨fun h0 => (by rw [h0] at hr; cases hr), fun i hi => ?_⟩
  rw [hr] at hi
  obtain rfl := List.mem_singleton.1 hi
  exact wpOp_step ho (fun K hK => h K (fun a w hS hW => hK a w ⟨hS, hW hS⟩))
/-- the beginning -/
theorem wp_region_B {id : Nat} {a : Act} {w : World} (brk : Nat) (S : World → Prop) (hm : P.follows .mixedOrders = true) (hS : S w.drew)
    (h : S w.drew → wpAnyB P .any ops Q S brk ops.size (Array.replicate ops.size false) a w.drew) : (Code.region id ops true).wp P Q a w :=
  wp_region_any hm ((h hS).any)
/-- two may come up -/
theorem wpAnyB_two {i j : Nat} {oi oj : Oper} {fuel : Nat} {listed : Array Bool} {a : Act} {w : World} (hi' : ops.toList[i]? = some oi) (hj' : ops.toList[j]? = some oj) (hr : Region.ready md ops listed = [i, j])
    (h1 : ∀ K : Act → World → Prop, Shut (∀ a w, (i ≠ brk → S w) → ((i ≠ brk → S w) → wpAnyB P md ops Q S brk fuel (listed.setIfInBounds i true) a w) → K a w) →
      if Region.wanted oi (yielded ops a.tmps) = true then Oper.wp P oi a w K Q else K (a.put oi.dst undef) w)
    (h2 : ∀ K : Act → World → Prop, Shut (∀ a w, (j ≠ brk → S w) → ((j ≠ brk → S w) → wpAnyB P md ops Q S brk fuel (listed.setIfInBounds j true) a w) → K a w) →
      if Region.wanted oj (yielded ops a.tmps) = true then Oper.wp P oj a w K Q else K (a.put oj.dst undef) w) : wpAnyB P md ops Q S brk (fuel + 1) listed a w := by
  have hi : ops[i]? = some oi := by simpa using hi'
  have hj : ops[j]? = some oj := by simpa using hj'
  refine ⟨fun h0 => (by rw [h0] at hr; cases hr), fun k hk => ?_⟩
  rw [hr] at hk
  rcases List.mem_cons.1 hk with rfl | hk
  · exact wpOp_step hi (fun K hK => h1 K (fun a w hS hW => hK a w ⟨hS, hW hS⟩))
  · obtain rfl := List.mem_singleton.1 hk
    exact wpOp_step hj (fun K hK => h2 K (fun a w hS hW => hK a w ⟨hS, hW hS⟩))
/-- three cells -/
def S3 (a1 a2 a3 : Addr) (v1 v2 v3 : Value) (w : World) : Prop := w.cell? a1 = some v1 ∧ w.cell? a2 = some v2 ∧ w.cell? a3 = some v3
theorem wp_region_B3 {id : Nat} {a : Act} {w : World} (brk : Nat) {a1 a2 a3 : Addr} {v1 v2 v3 : Value} (hm : P.follows .mixedOrders = true) (h1 : w.cell? a1 = some v1) (h2 : w.cell? a2 = some v2) (h3 : w.cell? a3 = some v3)
    (h : S3 a1 a2 a3 v1 v2 v3 w.drew → wpAnyB P .any ops Q (S3 a1 a2 a3 v1 v2 v3) brk ops.size (Array.replicate ops.size false) a w.drew) : (Code.region id ops true).wp P Q a w :=
  wp_region_B brk _ hm ⟨h1, h2, h3⟩ h
/-- four cells -/
def S4 (a1 a2 a3 a4 : Addr) (v1 v2 v3 v4 : Value) (w : World) : Prop := w.cell? a1 = some v1 ∧ w.cell? a2 = some v2 ∧ w.cell? a3 = some v3 ∧ w.cell? a4 = some v4
theorem wp_region_B4 {id : Nat} {a : Act} {w : World} (brk : Nat) {a1 a2 a3 a4 : Addr} {v1 v2 v3 v4 : Value} (hm : P.follows .mixedOrders = true) (h1 : w.cell? a1 = some v1) (h2 : w.cell? a2 = some v2) (h3 : w.cell? a3 = some v3) (h4 : w.cell? a4 = some v4)
    (h : S4 a1 a2 a3 a4 v1 v2 v3 v4 w.drew → wpAnyB P .any ops Q (S4 a1 a2 a3 a4 v1 v2 v3 v4) brk ops.size (Array.replicate ops.size false) a w.drew) : (Code.region id ops true).wp P Q a w :=
  wp_region_B brk _ hm ⟨h1, h2, h3, h4⟩ h
end
end Go.Proofs.YtdklogmmfnddiaaDoor
/-
  HOW FAR A TREE HAS BEEN TOLD: the states of tell's walks.
-/
namespace Go.Proofs.YtdklogmmfnddiaaDoor
open Go.ChangeShapes Go.WideShapes Go.ChangeAt Go.RowKit

def Nt (w : World) (tb lb : Nat) (U : World) (k : Nat) : Prop := w.heap.size ≤ k ∧ k < U.heap.size ∧ k ≠ tb ∧ k ≠ lb
theorem nt_grow {w U U' : World} {tb lb : Nat} (h : U.heap.size ≤ U'.heap.size) : ∀ k, Nt w tb lb U k → Nt w tb lb U' k := fun _ hk => ⟨hk.1, Nat.lt_of_lt_of_le hk.2.1 h, hk.2.2⟩
theorem nt_same {A : List Nat} {w U U' : World} {tb lb : Nat} (k : Keep A U U') (hA : ∀ i, i ∈ A → i = tb ∨ i = lb ∨ U.heap.size ≤ i) : SameOn (Nt w tb lb U) U U' := fun i hi => by
  refine k.block i hi.2.1 fun ha => ?_
  rcases hA i ha with e | e | e
  · exact hi.2.2.1 e
  · exact hi.2.2.2 e
  · have := hi.2.1; omega
/-- the trees ts are told; rest: the cells of those to come -/
structure TlSt (w U : World) (tb lb n : Nat) (ts : List T) (rest : List Value) : Prop where
  tree : U.heap[tb]? = some (.cells #[.int .i64 0, .slice none 0 0, .bool false, .slice (some ⟨lb, 0, none⟩) n n, .slice none 0 0] 37 (0, 0))
  row : ∃ css : List (List Value), css.length = ts.length ∧ (∀ i (h1 : i < ts.length) (h2 : i < css.length), HT U (Nt w tb lb U) ts[i] css[i]) ∧ U.heap[lb]? = some (.cells (css.flatten ++ rest).toArray 37 (0, 0))
  keep : Keep [] w U
  tl : w.heap.size ≤ tb
  ll : w.heap.size ≤ lb
  ne : tb ≠ lb
theorem css_len {w : World} {G : Nat → Prop} {ts : List T} {css : List (List Value)} (h1 : css.length = ts.length) (h2 : ∀ i (h1 : i < ts.length) (h2 : i < css.length), HT w G ts[i] css[i]) : css.flatten.length = 5 * ts.length := by
  rw [flatten_len css 5 fun c hc => ?_, h1]
  obtain ⟨i, hi, rfl⟩ := List.getElem_of_mem hc
  exact (h2 i (by omega) hi).five
theorem css_snoc {w : World} {G : Nat → Prop} {ts : List T} {css : List (List Value)} {t : T} {c : List Value} (h1 : css.length = ts.length) (h2 : ∀ i (h1 : i < ts.length) (h2 : i < css.length), HT w G ts[i] css[i]) (ht : HT w G t c) :
    ∀ i (h1 : i < (ts ++ [t]).length) (h2 : i < (css ++ [c]).length), HT w G (ts ++ [t])[i] (css ++ [c])[i] := fun i a b => by
  rcases Nat.lt_or_ge i ts.length with hi | hi
  · rw [List.getElem_append_left hi, List.getElem_append_left (by omega)]
    exact h2 i hi (by omega)
  · have hi' : i = ts.length := by simp at a; omega
    subst hi'
    rw [List.getElem_append_right (by omega), List.getElem_append_right (by omega)]
    simp only [h1, Nat.sub_self, List.getElem_singleton]
    exact ht
namespace TlSt
variable {w U U' : World} {tb lb n : Nat} {ts : List T} {rest : List Value}
theorem calm (h : TlSt w U tb lb n ts rest) (k : Keep [] U U') : TlSt w U' tb lb n ts rest := by
  obtain ⟨css, h1, h2, h3⟩ := h.row
  exact ⟨(k.block tb (World.heap_lt h.tree) (by simp)).trans h.tree, ⟨css, h1, fun i a b => (h2 i a b).keepF (nt_same k (by simp)) (nt_grow k.size), (k.block lb (World.heap_lt h3) (by simp)).trans h3⟩, h.keep.trans k, h.tl, h.ll, h.ne⟩
theorem d3 (h : TlSt w U tb lb n ts rest) : U.cell? ⟨tb, 3, none⟩ = some (.slice (some ⟨lb, 0, none⟩) n n) := cellOf h.tree 3 _ rfl
theorem at_ (h : TlSt w U tb lb n ts rest) {o j : Nat} {v : Value} (ho : o = 5 * ts.length + j) (hv : rest[j]? = some v) : U.cell? ⟨lb, o, none⟩ = some v ∧ U.frozen? ⟨lb, o, none⟩ = false := by
  obtain ⟨css, h1, h2, h3⟩ := h.row
  have hl := css_len h1 h2
  refine ⟨cellOf h3 o _ ?_, freeOf h3 o⟩
  subst ho
  rw [← hl]
  simp [List.getElem?_append_right, hv]
theorem put {a b c d e v0 v1 v2 v3 v4 : Value} {t : T} (h : TlSt w U tb lb n ts (a :: b :: c :: d :: e :: rest)) {o0 o1 o2 o3 o4 : Nat} (e0 : o0 = 5 * ts.length) (e1 : o1 = 5 * ts.length + 1) (e2 : o2 = 5 * ts.length + 2) (e3 : o3 = 5 * ts.length + 3) (e4 : o4 = 5 * ts.length + 4)
    (ht : HT U (Nt w tb lb U) t [v0, v1, v2, v3, v4]) : TlSt w (((((U.setCell ⟨lb, o0, none⟩ v0).setCell ⟨lb, o1, none⟩ v1).setCell ⟨lb, o2, none⟩ v2).setCell ⟨lb, o3, none⟩ v3).setCell ⟨lb, o4, none⟩ v4) tb lb n (ts ++ [t]) rest := by
  obtain ⟨css, h1, h2, h3⟩ := h.row
  have hl := css_len h1 h2
  have hll := h.ll
  subst e0 e1 e2 e3 e4
  have k : Keep [lb] U (((((U.setCell ⟨lb, 5 * ts.length, none⟩ v0).setCell ⟨lb, 5 * ts.length + 1, none⟩ v1).setCell ⟨lb, 5 * ts.length + 2, none⟩ v2).setCell ⟨lb, 5 * ts.length + 3, none⟩ v3).setCell ⟨lb, 5 * ts.length + 4, none⟩ v4) :=
    (((((Keep.refl _ _).setCell (.inl (by simp)) _).setCell (.inl (by simp)) _).setCell (.inl (by simp)) _).setCell (.inl (by simp)) _).setCell (.inl (by simp)) _
  refine ⟨(k.block tb (World.heap_lt h.tree) (by simp; exact h.ne)).trans h.tree, ⟨css ++ [[v0, v1, v2, v3, v4]], by simp [h1], css_snoc h1 h2 ht |> fun q i a b => (q i a b).keepF (nt_same k (by simp)) (nt_grow k.size), ?_⟩, ?_, h.tl, h.ll, h.ne⟩
  · rw [heap_set (heap_set (heap_set (heap_set (heap_set h3 v0) v1) v2) v3) v4, ← hl]
    simp [List.set_append_right]
  · exact ((h.keep.weaken (B := [lb]) (by simp)).trans k).fresh (by simp; omega)
end TlSt
/-- .. and a list is being told: xs are, in the slice lv -/
structure TlCur (w U : World) (tb lb n : Nat) (ts : List T) (null : Bool) (lv : Value) (xs : List T) (rest : List Value) : Prop where
  tree : U.heap[tb]? = some (.cells #[.int .i64 0, .slice none 0 0, .bool false, .slice (some ⟨lb, 0, none⟩) n n, .slice none 0 0] 37 (0, 0))
  row : ∃ css : List (List Value), css.length = ts.length ∧ (∀ i (h1 : i < ts.length) (h2 : i < css.length), HT U (Off (Nt w tb lb U) lv) ts[i] css[i]) ∧ U.heap[lb]? = some (.cells (css.flatten ++ ([.int .i64 0, .slice none 0 0, .bool null, lv, .slice none 0 0] ++ rest)).toArray 37 (0, 0))
  lst : OT U w.heap.size 37 (Nt w tb lb U) lv xs
  own : ∀ k, lv.ownBlock = some k → k ≠ tb ∧ k ≠ lb
  keep : Keep [] w U
  tl : w.heap.size ≤ tb
  ll : w.heap.size ≤ lb
  ne : tb ≠ lb
theorem TlSt.open {w U : World} {tb lb n : Nat} {ts : List T} {rest : List Value} (h : TlSt w U tb lb n ts (.int .i64 0 :: .slice none 0 0 :: .bool false :: .slice none 0 0 :: .slice none 0 0 :: rest)) {o : Nat} (ho : o = 5 * ts.length + 2) (null : Bool) :
    TlCur w (U.setCell ⟨lb, o, none⟩ (.bool null)) tb lb n ts null (.slice none 0 0) [] rest := by
  obtain ⟨css, h1, h2, h3⟩ := h.row
  have hl := css_len h1 h2
  have hll := h.ll
  subst ho
  have k : Keep [lb] U (U.setCell ⟨lb, 5 * ts.length + 2, none⟩ (.bool null)) := (Keep.refl _ _).setCell (.inl (by simp)) _
  refine ⟨(k.block tb (World.heap_lt h.tree) (by simp; exact h.ne)).trans h.tree, ⟨css, h1, fun i a b => (h2 i a b).keepF (nt_same k (by simp)) (fun i hi => ⟨nt_grow k.size i hi, by simp [Value.ownBlock]⟩), ?_⟩, OT.nil _ _ _ _, (fun k e => by cases e), ((h.keep.weaken (B := [lb]) (by simp)).trans k).fresh (by simp; omega), h.tl, h.ll, h.ne⟩
  rw [heap_set h3, ← hl]
  simp [List.set_append_right]
namespace TlCur
variable {w U U' : World} {tb lb n : Nat} {ts : List T} {null : Bool} {lv : Value} {xs : List T} {rest : List Value}
theorem calm (h : TlCur w U tb lb n ts null lv xs rest) (k : Keep [] U U') : TlCur w U' tb lb n ts null lv xs rest := by
  obtain ⟨css, h1, h2, h3⟩ := h.row
  refine ⟨(k.block tb (World.heap_lt h.tree) (by simp)).trans h.tree, ⟨css, h1, fun i a b => (h2 i a b).keepF (fun i hi => nt_same k (by simp) i hi.1) (fun i hi => ⟨nt_grow k.size i hi.1, hi.2⟩), (k.block lb (World.heap_lt h3) (by simp)).trans h3⟩, ?_, h.own, h.keep.trans k, h.tl, h.ll, h.ne⟩
  obtain ⟨xs0, hrow⟩ := h.lst.row
  exact h.lst.keepF (nt_same k (by simp)) (nt_grow k.size) (fun i e => k.block i (hrow.lt i e).2 (by simp))
theorem d3 (h : TlCur w U tb lb n ts null lv xs rest) : U.cell? ⟨tb, 3, none⟩ = some (.slice (some ⟨lb, 0, none⟩) n n) := cellOf h.tree 3 _ rfl
theorem l3 (h : TlCur w U tb lb n ts null lv xs rest) {o : Nat} (ho : o = 5 * ts.length + 3) : U.cell? ⟨lb, o, none⟩ = some lv ∧ U.frozen? ⟨lb, o, none⟩ = false := by
  obtain ⟨css, h1, h2, h3⟩ := h.row
  have hl := css_len h1 h2
  refine ⟨cellOf h3 o _ ?_, freeOf h3 o⟩
  subst ho
  rw [← hl]
  simp
/-- one tree more: U2 is U and new blocks, U3 is it with the grown row -/
theorem push {U2 U3 : World} {x : T} {c : List Value} {g cap o : Nat} {cs : List (List Value)} (h : TlCur w U tb lb n ts null lv xs rest) (ho : o = 5 * ts.length + 3) (k2 : Keep [] U U2) (h1 : cs.length = xs.length) (h2 : ∀ i (a : i < xs.length) (b : i < cs.length), HT U2 (Off (Nt w tb lb U2) lv) xs[i] cs[i])
    (hx : HT U2 (fun k => U.heap.size ≤ k ∧ k < U2.heap.size) x c) (hl : xs.length + 1 ≤ 1099511627776) (hrow : U3.ownsRow w.heap.size 37 5 (.slice (some ⟨g, 0, none⟩) (xs.length + 1) cap) (xs.length + 1) (cs.flatten ++ c)) (hgr : U2.grownBy U3 lv.ownBlock) (hat : lv.ownBlock = some g ∨ g = U2.heap.size) :
    TlCur w (U3.setCell ⟨lb, o, none⟩ (.slice (some ⟨g, 0, none⟩) (xs.length + 1) cap)) tb lb n ts null (.slice (some ⟨g, 0, none⟩) (xs.length + 1) cap) (xs ++ [x]) rest := by
  have hc := h.calm k2
  obtain ⟨xs0, hrow0⟩ := h.lst.row
  have htl := h.tl
  have hll := h.ll
  have hne := h.ne
  have hlt := World.heap_lt h.tree
  have hlU : lb < U.heap.size := by
    obtain ⟨css', _, _, r3'⟩ := h.row
    exact World.heap_lt r3'
  have hz2 := k2.size
  have hz3 := hgr.size
  have hzw := h.keep.size
  obtain ⟨css, r1, r2, r3⟩ := hc.row
  have hlb := World.heap_lt r3
  have hlen := css_len r1 r2
  have hgl := hrow.lt g rfl
  have hgt : g ≠ tb ∧ g ≠ lb := by
    rcases hat with e | e
    · exact h.own g e
    · omega
  have hob : ∀ k, lv.ownBlock = some k → k < U.heap.size := fun k e => (hrow0.lt k e).2
  have P := OT.push (w := U2) (w' := U3) (G := Nt w tb lb U2) h1 h2 (hx.keepF (fun _ _ => rfl) (fun k hk => by have a1 := hk.1; have a2 := hk.2; exact ⟨⟨by omega, a2, by omega, by omega⟩, fun e => by have := hob k e.symm; omega⟩)) (fun k hk => hk.2.1) hl hrow hgr (hat.imp id (fun e => by omega))
  have k3 : ∀ k, k < U2.heap.size → lv.ownBlock ≠ some k → U3.heap[k]? = U2.heap[k]? := fun k hk hn => hgr.block k hk (fun e => hn e.symm)
  have hs : ∀ k, k ≠ lb → (U3.setCell ⟨lb, o, none⟩ (.slice (some ⟨g, 0, none⟩) (xs.length + 1) cap)).heap[k]? = U3.heap[k]? := fun k hk => Below.heap_setCell _ _ _ _ (fun e => hk (by simpa using e))
  have hz4 : (U3.setCell ⟨lb, o, none⟩ (.slice (some ⟨g, 0, none⟩) (xs.length + 1) cap)).heap.size = U3.heap.size := by simp [World.setCell]
  have b3 := (k3 lb hlb (fun e => (h.own lb e).2 rfl)).trans r3
  have sm : ∀ k, Off (Nt w tb lb U2) lv k → (U3.setCell ⟨lb, o, none⟩ (.slice (some ⟨g, 0, none⟩) (xs.length + 1) cap)).heap[k]? = U2.heap[k]? := fun k hk => (hs k hk.1.2.2.2).trans (k3 k hk.1.2.1 (fun e => hk.2 e.symm))
  refine ⟨(hs tb hne).trans ((k3 tb (by omega) (fun e => (h.own tb e).1 rfl)).trans hc.tree), ⟨css, r1, fun i a b => ?_, ?_⟩, P.keepF (fun k hk => hs k hk.2.2.2) (fun k hk => ⟨hk.1, by have := hk.2.1; omega, hk.2.2⟩) (fun k e => ?_), (fun k e => ?_), ?_, htl, hll, hne⟩
  · refine (r2 i a b).keepF sm fun k hk => ⟨⟨hk.1.1, by have := hk.1.2.1; omega, hk.1.2.2⟩, fun e => ?_⟩
    have e' : k = g := by simpa [Value.ownBlock] using e
    subst e'
    rcases hat with h | h
    · exact hk.2 h.symm
    · have := hk.1.2.1; omega
  · subst ho
    rw [heap_set b3, ← hlen]
    simp [List.set_append_right]
  · have e' : k = g := by simpa [Value.ownBlock] using e.symm
    subst e'
    exact hs _ hgt.2
  · have e' : k = g := by simpa [Value.ownBlock] using e.symm
    subst e'
    exact hgt
  · refine ⟨hgr.os.trans (k2.os.trans h.keep.os), hgr.tape.trans (k2.tape.trans h.keep.tape), hgr.output.trans (k2.output.trans h.keep.output), by omega, fun k hk _ => ?_⟩
    rw [hs k (by omega), k3 k (by omega) (fun e => by have := hrow0.lt k e; omega), k2.block k (by omega) (by simp)]
    exact h.keep.block k hk (by simp)
/-- the list is told whole -/
theorem close (h : TlCur w U tb lb n ts null lv xs rest) : TlSt w U tb lb n (ts ++ [.mk 0 [] null xs []]) rest := by
  obtain ⟨css, h1, h2, h3⟩ := h.row
  obtain ⟨xs0, hrow0⟩ := h.lst.row
  have hts : HTs U (Nt w tb lb U) lv xs := by
    obtain ⟨cs, c1, c2, c3, c4⟩ := h.lst
    refine ⟨cs, c1, fun i a b => (c2 i a b).keepF (fun _ _ => rfl) (fun k hk => hk.1), Nat.le_trans c3 (by decide), ?_⟩
    rw [c1]
    obtain ⟨ao, cap, e, p1, p2, p3⟩ := ownsRow_rs c4
    refine ⟨ao, cap, e, p1, p2, fun a ha => ⟨(p3 a ha).1, fun i hi => ⟨⟨((p3 a ha).2 i hi).1.1, ((p3 a ha).2 i hi).1.2, ?_⟩, ((p3 a ha).2 i hi).2⟩⟩⟩
    refine h.own a.block ?_
    rw [e, ha]
    rcases c4.2 with ⟨q, _⟩ | ⟨g, cap', cur, q, _⟩
    · rw [q] at e; rw [ha] at e; cases e
    · rw [q] at e; rw [ha] at e; cases e; rfl
  exact ⟨h.tree, ⟨css ++ [_], by simp [h1], css_snoc h1 (fun i a b => (h2 i a b).keepF (fun _ _ => rfl) (fun k hk => hk.1)) (HT.of 0 [] null xs [] (RB.nil _ _) hts (HGs.nil _ _) (by decide) (by decide) (by decide) (by obtain ⟨_, _, _, c3, _⟩ := h.lst; exact c3)), by rw [h3]; simp⟩, h.keep, h.tl, h.ll, h.ne⟩
end TlCur
/-- a call of a function for which the model stands in, as a step of a region that draws its order -/
theorem step_extern {P : Program} {w : World} {ops : Array Oper} {o : Oper} {a : Act} {Q : Exit → Act → World → Prop} {K : Act → World → Prop} {E : Prop} (hgd : o.guard = none) (k : Nat) (ps : Array Operand) (ts : Array TypeId)
    (ho : o.op = .call { callee := .value (.func k), args := ps, argTypes := ts }) (args : Array Value) (hargs : ps.map a.eval = args) (v : Value)
    (hc : ∀ w, (callFunc k args).run P w = .ok (.value v) w) (h : K (a.put o.dst v) w) : if Region.wanted o (yielded ops a.tmps) = true then Oper.wp P o a w K Q else E := by
  have hw : Region.wanted o (yielded ops a.tmps) = true := by simp [Region.wanted, hgd]
  rw [if_pos hw]
  have hrun : (execOp a.eval o).run P w = .ok (.value v) w := by
    have e1 : a.eval (.func k) = .func (.func k) #[] #[] := rfl
    simp [execOp, ho, resolve, Deferred.ofValue, invoke, e1, hargs, bind, pure, Sem.bind]
    exact hc w
  unfold Oper.wp
  rw [hrun]
  exact h
theorem f64_wrap {n : Nat} (h : n < 18446744073709551616) : IntKind.i64.wrap (n : Int) = sgn 8 n := by
  simp only [sgn, IntKind.wrap_i64]
  split <;> omega
theorem f64_range {n : Nat} (h : n < 18446744073709551616) : -9223372036854775808 ≤ sgn 8 n ∧ sgn 8 n ≤ 9223372036854775807 := by
  simp only [sgn]
  split <;> omega
end Go.Proofs.YtdklogmmfnddiaaDoor
/-
  FIELDS TAKEN APART, for tell's walks.
-/
namespace Go.Proofs.YtdklogmmfnddiaaDoor
open Go.ChangeShapes Go.WideShapes Go.ChangeAt Go.RowKit

theorem info_it : (Tryd.prog.info? 37).map (fun i => (i.size, i.bytes)) = some (5, 88) := by kernel_rfl
theorem zero_it : (Tryd.prog.info? 37).bind (fun i => i.zero) = some (.agg #[.int .i64 0, .slice none 0 0, .bool false, .slice none 0 0, .slice none 0 0]) := by kernel_rfl
theorem TlCur.drew {w U : World} {tb lb n : Nat} {ts : List T} {null : Bool} {lv : Value} {xs : List T} {rest : List Value} (h : TlCur w U tb lb n ts null lv xs rest) : TlCur w U.drew tb lb n ts null lv xs rest := h.calm (Keep.refl [] U).drew
theorem TlSt.lts {w U : World} {tb lb n : Nat} {ts : List T} {rest : List Value} (h : TlSt w U tb lb n ts rest) : lb < U.heap.size ∧ tb < U.heap.size := by
  obtain ⟨css, _, _, r3⟩ := h.row
  exact ⟨World.heap_lt r3, World.heap_lt h.tree⟩
theorem TlCur.lts {w U : World} {tb lb n : Nat} {ts : List T} {null : Bool} {lv : Value} {xs : List T} {rest : List Value} (h : TlCur w U tb lb n ts null lv xs rest) : lb < U.heap.size ∧ tb < U.heap.size := by
  obtain ⟨css, _, _, r3⟩ := h.row
  exact ⟨World.heap_lt r3, World.heap_lt h.tree⟩
theorem TlSt.drew {w U : World} {tb lb n : Nat} {ts : List T} {rest : List Value} (h : TlSt w U tb lb n ts rest) : TlSt w U.drew tb lb n ts rest := h.calm (Keep.refl [] U).drew
theorem TlSt.ntNew {w U W : World} {tb lb n : Nat} {ts : List T} {rest : List Value} (h : TlSt w U tb lb n ts rest) : ∀ k, (U.heap.size ≤ k ∧ k < W.heap.size) → Nt w tb lb W k := fun k hk => by
  have h1 := World.heap_lt h.tree
  obtain ⟨css, _, _, h3⟩ := h.row
  have h2 := World.heap_lt h3
  have h4 := h.keep.size
  exact ⟨by omega, hk.2, by omega, by omega⟩
theorem TlCur.row3 {w U W : World} {tb lb n : Nat} {ts : List T} {null : Bool} {lv : Value} {xs : List T} {rest : List Value} (h : TlCur w U tb lb n ts null lv xs rest) {o : Nat} (ho : o = 5 * ts.length + 3) (hgr : U.grownBy W lv.ownBlock) :
    W.cell? ⟨lb, o, none⟩ = some lv ∧ W.frozen? ⟨lb, o, none⟩ = false := by
  obtain ⟨css, h1, h2, h3⟩ := h.row
  have hl := css_len h1 h2
  have h4 := (hgr.block lb (World.heap_lt h3) (fun e => (h.own lb e.symm).2 rfl)).trans h3
  refine ⟨cellOf h4 o _ ?_, freeOf h4 o⟩
  subst ho
  rw [← hl]
  simp
/-- a list gains a tree, however the world came to be -/
theorem TlCur.pushAbs {w U U2 V : World} {tb lb n : Nat} {ts : List T} {null : Bool} {lv : Value} {xs : List T} {rest : List Value} {x : T} {c : List Value} {g cap o : Nat} {cs : List (List Value)} (h : TlCur w U tb lb n ts null lv xs rest) (ho : o = 5 * ts.length + 3) (k2 : Keep [] U U2) (h1 : cs.length = xs.length) (h2 : ∀ i (a : i < xs.length) (b : i < cs.length), HT U2 (Off (Nt w tb lb U2) lv) xs[i] cs[i])
    (hx : HT U2 (fun k => U.heap.size ≤ k ∧ k < U2.heap.size) x c) (hl : xs.length + 1 ≤ 1099511627776) (hrow : V.ownsRow w.heap.size 37 5 (.slice (some ⟨g, 0, none⟩) (xs.length + 1) cap) (xs.length + 1) (cs.flatten ++ c))
    (hat : lv.ownBlock = some g ∨ g = U2.heap.size) (hos : V.os = U2.os) (htp : V.tape = U2.tape) (hou : V.output = U2.output) (hsz : U2.heap.size ≤ V.heap.size)
    (hlbV : ∀ c0 : Array Value, U2.heap[lb]? = some (.cells c0 37 (0, 0)) → V.heap[lb]? = some (.cells (c0.setIfInBounds o (.slice (some ⟨g, 0, none⟩) (xs.length + 1) cap)) 37 (0, 0)))
    (hblk : ∀ k, k < U2.heap.size → k ≠ lb → lv.ownBlock ≠ some k → V.heap[k]? = U2.heap[k]?) :
    TlCur w V tb lb n ts null (.slice (some ⟨g, 0, none⟩) (xs.length + 1) cap) (xs ++ [x]) rest := by
  have hc := h.calm k2
  obtain ⟨xs0, hrow0⟩ := h.lst.row
  have htl := h.tl
  have hll := h.ll
  have hne := h.ne
  have hlt := World.heap_lt h.tree
  have hlU : lb < U.heap.size := by
    obtain ⟨css', _, _, r3'⟩ := h.row
    exact World.heap_lt r3'
  have hz2 := k2.size
  have hzw := h.keep.size
  obtain ⟨css, r1, r2, r3⟩ := hc.row
  have hlen := css_len r1 r2
  have hgl := hrow.lt g rfl
  have hgt : g ≠ tb ∧ g ≠ lb := by
    rcases hat with e | e
    · exact h.own g e
    · omega
  have hob : ∀ k, lv.ownBlock = some k → w.heap.size ≤ k ∧ k < U.heap.size := fun k e => hrow0.lt k e
  have sm : ∀ k, Off (Nt w tb lb U2) lv k → V.heap[k]? = U2.heap[k]? := fun k hk => hblk k hk.1.2.1 hk.1.2.2.2 (fun e => hk.2 e.symm)
  have gr : ∀ k, Off (Nt w tb lb U2) lv k → Off (Nt w tb lb V) (.slice (some ⟨g, 0, none⟩) (xs.length + 1) cap) k := fun k hk => ⟨⟨hk.1.1, by have := hk.1.2.1; omega, hk.1.2.2⟩, fun e => by
    have e' : k = g := by simpa [Value.ownBlock] using e
    subst e'
    rcases hat with h | h
    · exact hk.2 h.symm
    · have := hk.1.2.1; omega⟩
  have hx' : HT U2 (Off (Nt w tb lb U2) lv) x c := hx.keepF (fun _ _ => rfl) (fun k hk => by have a1 := hk.1; have a2 := hk.2; exact ⟨⟨by omega, a2, by omega, by omega⟩, fun e => by have := (hob k e.symm).2; omega⟩)
  refine ⟨(hblk tb (by omega) hne (fun e => (h.own tb e).1 rfl)).trans hc.tree, ⟨css, r1, fun i a b => (r2 i a b).keepF sm gr, ?_⟩, ⟨cs ++ [c], by simp [h1], ?_, by simpa using hl, by simpa using hrow⟩, (fun k e => ?_), ?_, htl, hll, hne⟩
  · rw [hlbV _ r3]
    subst ho
    rw [← hlen]
    simp [List.set_append_right]
  · exact fun i a b => (css_snoc h1 h2 hx' i a b).keepF sm gr
  · have e' : k = g := by simpa [Value.ownBlock] using e.symm
    subst e'
    exact hgt
  · refine ⟨hos.trans (k2.os.trans h.keep.os), htp.trans (k2.tape.trans h.keep.tape), hou.trans (k2.output.trans h.keep.output), by omega, fun k hk _ => ?_⟩
    rw [hblk k (by omega) (by omega) (fun e => by have := hob k e; omega), k2.block k (by omega) (by simp)]
    exact h.keep.block k hk (by simp)
theorem TlCur.apart {w U V : World} {tb lb n m cap g : Nat} {ts : List T} {null : Bool} {lv : Value} {xs : List T} {rest ys : List Value} (h : TlCur w U tb lb n ts null lv xs rest) (_hrow : V.ownsRow w.heap.size 37 5 (.slice (some ⟨g, 0, none⟩) m cap) m ys) (hat : lv.ownBlock = some g ∨ g = U.heap.size) : g ≠ lb := by
  obtain ⟨css, _, _, r3⟩ := h.row
  have := World.heap_lt r3
  rcases hat with e | e
  · exact (h.own g e).2
  · omega
theorem heap_set5 {w : World} {b i : Nat} {c : Array Value} {t : TypeId} {z : Nat × Nat} (h : w.heap[b]? = some (.cells c t z)) (v0 v1 v2 v3 v4 : Value) :
    (((((w.setCell ⟨b, i, none⟩ v0).setCell ⟨b, i + 1, none⟩ v1).setCell ⟨b, i + 2, none⟩ v2).setCell ⟨b, i + 3, none⟩ v3).setCell ⟨b, i + 4, none⟩ v4).heap[b]? = some (.cells (((((c.setIfInBounds i v0).setIfInBounds (i + 1) v1).setIfInBounds (i + 2) v2).setIfInBounds (i + 3) v3).setIfInBounds (i + 4) v4) t z) :=
  heap_set (heap_set (heap_set (heap_set (heap_set h v0) v1) v2) v3) v4
theorem own_set5 {w : World} {B E g cap n : Nat} {xs : List Value} {z0 z1 z2 z3 z4 : Value} (h : w.ownsRow B E 5 (.slice (some ⟨g, 0, none⟩) (n + 1) cap) (n + 1) (xs ++ [z0, z1, z2, z3, z4])) (v0 v1 v2 v3 v4 : Value) :
    (((((w.setCell ⟨g, n * 5, none⟩ v0).setCell ⟨g, n * 5 + 1, none⟩ v1).setCell ⟨g, n * 5 + 2, none⟩ v2).setCell ⟨g, n * 5 + 3, none⟩ v3).setCell ⟨g, n * 5 + 4, none⟩ v4).ownsRow B E 5 (.slice (some ⟨g, 0, none⟩) (n + 1) cap) (n + 1) (xs ++ [v0, v1, v2, v3, v4]) ∧
      ∃ cur : Array Value, w.heap[g]? = some (.cells cur E (0, 0)) ∧ cur[n * 5]? = some z0 ∧ cur[n * 5 + 1]? = some z1 ∧ cur[n * 5 + 2]? = some z2 ∧ cur[n * 5 + 3]? = some z3 ∧ cur[n * 5 + 4]? = some z4 := by
  obtain ⟨h0, ⟨e, _⟩ | ⟨g', cap', cur, e, hb, hg, hn, hm, hz, ht⟩⟩ := h
  · cases e
  · cases e
    have hxl : xs.length = n * 5 := by simp at h0; omega
    have hcl : cur.toList = (xs ++ [z0, z1, z2, z3, z4]) ++ cur.toList.drop ((n + 1) * 5) := by
      conv => lhs; rw [← List.take_append_drop ((n + 1) * 5) cur.toList]
      rw [ht]
    have hcur : cur = ((xs ++ [z0, z1, z2, z3, z4]) ++ cur.toList.drop ((n + 1) * 5)).toArray := by
      rw [← hcl]
    generalize cur.toList.drop ((n + 1) * 5) = tl at *
    have hset := heap_set5 (i := n * 5) hg v0 v1 v2 v3 v4
    have hs : ((((cur.setIfInBounds (n * 5) v0).setIfInBounds (n * 5 + 1) v1).setIfInBounds (n * 5 + 2) v2).setIfInBounds (n * 5 + 3) v3).setIfInBounds (n * 5 + 4) v4 = (xs ++ [v0, v1, v2, v3, v4] ++ tl).toArray := by
      rw [hcur, ← hxl]
      simp [List.set_append_right]
    rw [hs] at hset
    have hsz : cur.size = xs.length + 5 + tl.length := by rw [hcur]; simp; omega
    refine ⟨⟨by simp; omega, .inr ⟨g, cap, _, rfl, hb, hset, hn, hm, by simp; omega, ?_⟩⟩, cur, hg, ?_⟩
    · rw [List.take_append_of_le_length (by simp; omega), List.take_of_length_le (by simp; omega)]
    · rw [hcur, ← hxl]
      simp
theorem Pt.grownC {W W' : World} {pb po : Nat} {c : List Value} {row : Option Nat} (h : Pt W pb po c) (hg : W.grownBy W' row) (hn : row ≠ some pb) : Pt W' pb po c := by
  obtain ⟨pre, post, ty, h1, h2⟩ := h
  exact ⟨pre, post, ty, (hg.block pb (World.heap_lt h1) (fun e => hn e.symm)).trans h1, h2⟩
theorem TlCur.ownGe {w U : World} {tb lb n k : Nat} {ts : List T} {null : Bool} {lv : Value} {xs : List T} {rest : List Value} (h : TlCur w U tb lb n ts null lv xs rest) (e : lv.ownBlock = some k) : w.heap.size ≤ k := by
  obtain ⟨xs0, hrow0⟩ := h.lst.row
  exact (hrow0.lt k e).1
theorem TlCur.d3G {w U W : World} {tb lb n : Nat} {ts : List T} {null : Bool} {lv : Value} {xs : List T} {rest : List Value} (h : TlCur w U tb lb n ts null lv xs rest) (hgr : U.grownBy W lv.ownBlock) : W.cell? ⟨tb, 3, none⟩ = some (.slice (some ⟨lb, 0, none⟩) n n) :=
  cellOf ((hgr.block tb (World.heap_lt h.tree) (fun e => (h.own tb e.symm).1 rfl)).trans h.tree) 3 _ rfl
/-- a tree is stored into the row's new last place -/
theorem TlCur.pushSet {w U U2 U3 : World} {tb lb n : Nat} {ts : List T} {null : Bool} {lv : Value} {xs : List T} {rest : List Value} {x : T} {g cap o m : Nat} {cs : List (List Value)} {z0 z1 z2 z3 z4 v0 v1 v2 v3 v4 : Value} (h : TlCur w U tb lb n ts null lv xs rest) (ho : o = 5 * ts.length + 3) (hm : xs.length = m) (k2 : Keep [] U U2) (h1 : cs.length = xs.length) (h2 : ∀ i (a : i < xs.length) (b : i < cs.length), HT U2 (Off (Nt w tb lb U2) lv) xs[i] cs[i])
    (hl : m + 1 ≤ 1099511627776) (hown : U3.ownsRow w.heap.size 37 5 (.slice (some ⟨g, 0, none⟩) (m + 1) cap) (m + 1) (cs.flatten ++ [z0, z1, z2, z3, z4])) (hgr : U2.grownBy U3 lv.ownBlock) (hat : lv.ownBlock = some g ∨ g = U2.heap.size) :
    (∃ cur : Array Value, (U3.setCell ⟨lb, o, none⟩ (.slice (some ⟨g, 0, none⟩) (m + 1) cap)).heap[g]? = some (.cells cur 37 (0, 0)) ∧ cur[m * 5]? = some z0 ∧ cur[m * 5 + 1]? = some z1 ∧ cur[m * 5 + 2]? = some z2 ∧ cur[m * 5 + 3]? = some z3 ∧ cur[m * 5 + 4]? = some z4) ∧
    (HT U2 (fun k => U.heap.size ≤ k ∧ k < U2.heap.size) x [v0, v1, v2, v3, v4] → TlCur w ((((((U3.setCell ⟨lb, o, none⟩ (.slice (some ⟨g, 0, none⟩) (m + 1) cap)).setCell ⟨g, m * 5, none⟩ v0).setCell ⟨g, m * 5 + 1, none⟩ v1).setCell ⟨g, m * 5 + 2, none⟩ v2).setCell ⟨g, m * 5 + 3, none⟩ v3).setCell ⟨g, m * 5 + 4, none⟩ v4) tb lb n ts null (.slice (some ⟨g, 0, none⟩) (m + 1) cap) (xs ++ [x]) rest) := by
  subst hm
  have hgo := (h.calm k2).apart hown hat
  have hk := hown.kept (grown_set U3 ⟨lb, o, none⟩ (.slice (some ⟨g, 0, none⟩) (xs.length + 1) cap)) (.inr (by simp [Value.ownBlock]; exact hgo))
  obtain ⟨hV, hcur⟩ := own_set5 hk v0 v1 v2 v3 v4
  refine ⟨hcur, ?_⟩
  obtain ⟨V, hVe⟩ : ∃ V, V = ((((((U3.setCell ⟨lb, o, none⟩ (.slice (some ⟨g, 0, none⟩) (xs.length + 1) cap)).setCell ⟨g, xs.length * 5, none⟩ v0).setCell ⟨g, xs.length * 5 + 1, none⟩ v1).setCell ⟨g, xs.length * 5 + 2, none⟩ v2).setCell ⟨g, xs.length * 5 + 3, none⟩ v3).setCell ⟨g, xs.length * 5 + 4, none⟩ v4) := ⟨_, rfl⟩
  rw [← hVe] at hV ⊢
  have f1 : Keep [lb, g] U3 V := by
    rw [hVe]
    exact ((((((Keep.refl _ _).setCell (.inl (by simp)) _).setCell (.inl (by simp)) _).setCell (.inl (by simp)) _).setCell (.inl (by simp)) _).setCell (.inl (by simp)) _).setCell (.inl (by simp)) _
  have f2 : ∀ k, k ≠ g → V.heap[k]? = (U3.setCell ⟨lb, o, none⟩ (.slice (some ⟨g, 0, none⟩) (xs.length + 1) cap)).heap[k]? := fun k hk => by
    rw [hVe, Below.heap_setCell _ _ _ _ hk, Below.heap_setCell _ _ _ _ hk, Below.heap_setCell _ _ _ _ hk, Below.heap_setCell _ _ _ _ hk, Below.heap_setCell _ _ _ _ hk]
  clear hVe hcur hk
  refine fun hx => h.pushAbs ho k2 h1 h2 hx hl hV hat (f1.os.trans hgr.os) (f1.tape.trans hgr.tape) (f1.output.trans hgr.output) (Nat.le_trans hgr.size f1.size) (fun c0 hc0 => ?_) (fun k hk1 hk2 hk3 => ?_)
  · have hn : lv.ownBlock ≠ some lb := fun e => (h.own lb e).2 rfl
    have hlt := (h.calm k2).lts.1
    have hb := (hgr.block lb hlt (fun e => hn e.symm)).trans hc0
    rw [f2 lb hgo.symm]
    exact heap_set hb _
  · have hkg : k ≠ g := by
      rintro rfl
      rcases hat with e | e
      · exact hk3 e
      · omega
    rw [f2 k hkg, Below.heap_setCell _ _ _ _ hk2]
    exact hgr.block k hk1 (fun e => hk3 e.symm)
theorem TlSt.putText {w U : World} {tb lb n : Nat} {ts : List T} {rest : List Value} {a b c d e : Value} (h : TlSt w U tb lb n ts (a :: b :: c :: d :: e :: rest)) {o0 o1 o2 o3 o4 : Nat} (e0 : o0 = 5 * ts.length) (e1 : o1 = 5 * ts.length + 1) (e2 : o2 = 5 * ts.length + 2) (e3 : o3 = 5 * ts.length + 3) (e4 : o4 = 5 * ts.length + 4)
    (l : Bs) (hl : l.length ≤ 1000000) (cap : Nat) (ty : TypeId) (hc : l.length ≤ cap) (fr : Nat × Nat) :
    TlSt w ((((((U.alloc (.cells (bytesRow ⟨l.toArray⟩ cap) ty fr)).setCell ⟨lb, o0, none⟩ (.int .i64 0)).setCell ⟨lb, o1, none⟩ (.slice (some ⟨U.heap.size, 0, none⟩) l.length cap)).setCell ⟨lb, o2, none⟩ (.bool false)).setCell ⟨lb, o3, none⟩ (.slice none 0 0)).setCell ⟨lb, o4, none⟩ (.slice none 0 0)) tb lb n (ts ++ [.mk 0 l false [] []]) rest := by
  have hb := bytes_rb U l cap ty fr hc
  have hk : Keep [] U (U.alloc (.cells (bytesRow ⟨l.toArray⟩ cap) ty fr)) := keep_box _
  refine (h.calm hk).put e0 e1 e2 e3 e4 (HT.of 0 l false [] [] (hb.keepF (fun _ _ => rfl) (fun k hk => ?_)) (HTs.nil _ _) (HGs.nil _ _) (by decide) (by decide) (by omega) (by decide))
  subst hk
  exact h.ntNew _ ⟨Nat.le_refl _, by simp⟩
theorem TlSt.putText2 {w U : World} {tb lb n : Nat} {ts : List T} {rest : List Value} {a b c d e : Value} (h : TlSt w U tb lb n ts (a :: b :: c :: d :: e :: rest)) {o0 o1 o2 o3 o4 : Nat} (e0 : o0 = 5 * ts.length) (e1 : o1 = 5 * ts.length + 1) (e2 : o2 = 5 * ts.length + 2) (e3 : o3 = 5 * ts.length + 3) (e4 : o4 = 5 * ts.length + 4)
    (l : Bs) (hl : l.length ≤ 1000000) (cap : Nat) (ty : TypeId) (hc : l.length ≤ cap) (fr : Nat × Nat) :
    TlSt w ((((((U.setCell ⟨lb, o0, none⟩ (.int .i64 0)).setCell ⟨lb, o1, none⟩ (.slice (some ⟨U.heap.size, 0, none⟩) l.length cap)).setCell ⟨lb, o2, none⟩ (.bool false)).setCell ⟨lb, o3, none⟩ (.slice none 0 0)).setCell ⟨lb, o4, none⟩ (.slice none 0 0)).alloc (.cells (bytesRow ⟨l.toArray⟩ cap) ty fr)).drew.drew tb lb n (ts ++ [.mk 0 l false [] []]) rest := by
  have Q := h.putText e0 e1 e2 e3 e4 l hl cap ty hc fr
  have hlt := h.lts.1
  have hz : ∀ (W : World) (p : Addr) (v : Value), (W.setCell p v).heap.size = W.heap.size := fun W p v => by simp [World.setCell]
  rw [World.setCell_alloc_past _ _ _ _ hlt, World.setCell_alloc_past _ _ _ _ (by rw [hz]; exact hlt), World.setCell_alloc_past _ _ _ _ (by rw [hz, hz]; exact hlt), World.setCell_alloc_past _ _ _ _ (by rw [hz, hz, hz]; exact hlt), World.setCell_alloc_past _ _ _ _ (by rw [hz, hz, hz, hz]; exact hlt)] at Q
  exact Q.drew.drew
theorem TlSt.start {w w0 : World} {n : Nat} {rest : List Value} (hz : w0.heap.size = w.heap.size + 1) :
    TlSt w0 ((w0.alloc (.cells rest.toArray 37)).alloc (.cells #[.int .i64 0, .slice none 0 0, .bool false, .slice (some ⟨w.heap.size + 1, 0, none⟩) n n, .slice none 0 0] 37)) (w.heap.size + 1 + 1) (w.heap.size + 1) n [] rest := by
  have h2 := heap_alloc_new (w0.alloc (.cells rest.toArray 37)) (.cells #[.int .i64 0, .slice none 0 0, .bool false, .slice (some ⟨w.heap.size + 1, 0, none⟩) n n, .slice none 0 0] 37)
  have h1 := heap_alloc_new w0 (.cells rest.toArray 37)
  rw [World.size_alloc, hz] at h2
  rw [hz] at h1
  refine ⟨h2, ⟨[], rfl, fun i a => by simp at a, ?_⟩, (keep_box _).alloc _, by omega, by omega, by omega⟩
  rw [Below.heap_alloc _ _ _ (by simp [hz])]
  exact h1
end Go.Proofs.YtdklogmmfnddiaaDoor
/-
  Which versions have a field.
-/
namespace Go.Proofs.YtdklogmmfnddiaaDoor
section
variable {k a b nul tag d o v : Int} {sub : List F}
theorem has_yes (h1 : a ≤ v) (h2 : b < 0 ∨ v ≤ b) : F.has (.mk k a b nul tag d o sub) v = true := by
  show (decide (a ≤ v) && (decide (b < 0) || decide (v ≤ b))) = true
  simp [h1, h2]
theorem has_no1 (h1 : ¬ a ≤ v) : F.has (.mk k a b nul tag d o sub) v = false := by
  show (decide (a ≤ v) && (decide (b < 0) || decide (v ≤ b))) = false
  simp [h1]
theorem has_no2 (h1 : ¬ v ≤ b) (h2 : 0 ≤ b) : F.has (.mk k a b nul tag d o sub) v = false := by
  show (decide (a ≤ v) && (decide (b < 0) || decide (v ≤ b))) = false
  have h3 : ¬ b < 0 := by omega
  simp [h1, h3]
end
end Go.Proofs.YtdklogmmfnddiaaDoor
/-
  To store what lies there changes nothing.
-/
namespace Go.Proofs.YtdklogmmfnddiaaDoor
open Go.ChangeShapes Go.WideShapes Go.ChangeAt Go.RowKit

theorem setCell_self {w : World} {b i : Nat} {v : Value} (h : w.cell? ⟨b, i, none⟩ = some v) : w.setCell ⟨b, i, none⟩ v = w := by
  unfold World.cell? at h
  have hh : (w.setCell ⟨b, i, none⟩ v).heap = w.heap := by
    unfold World.setCell
    refine Array.ext (by simp) fun j h1 h2 => ?_
    simp only
    rw [Array.getElem_modify]
    split
    · rename_i e
      subst e
      rw [Array.getElem?_eq_getElem h2] at h
      split at h
      · rename_i c t f e
        rw [Option.some.inj e]
        simp only [Option.isSome_none, Bool.false_eq_true, if_false] at h ⊢
        congr 1
        refine Array.ext (by simp) fun k k1 k2 => ?_
        rw [Array.getElem_setIfInBounds]
        split
        · rename_i e2
          subst e2
          rw [Array.getElem?_eq_getElem k2] at h
          exact (Option.some.inj h).symm
        · rfl
      · cases h
    · rfl
  calc w.setCell ⟨b, i, none⟩ v = { w with heap := (w.setCell ⟨b, i, none⟩ v).heap } := rfl
    _ = w := by rw [hh]
end Go.Proofs.YtdklogmmfnddiaaDoor
