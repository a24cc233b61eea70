/-
  spec.part where the version is flexible, of fields without tags.
-/
import Derived.Test.YtobbchmjgoaleaaGreatDoorMEtr24
import Derived.Test.YtobbchmjgoaleaaGreatDoorMEtr15
namespace Go.Proofs.YtobbchmjgoaleaaGreatDoor
open Go.ChangeShapes Go.WideShapes Go.ChangeAt Go.RowKit

theorem noTags_un : ∀ {fs : List F}, noTags fs = true → untagged fs = true
  | [], _ => rfl
  | f :: r, h => by
    simp only [noTags, Bool.and_eq_true] at h
    simp only [untagged, Bool.and_eq_true]
    exact ⟨h.1, noTags_un h.2⟩
set_option maxHeartbeats 1000000 in
set_option maxRecDepth 100000 in
theorem part_flex {fs : List F} {v : Int} (hno : noTags fs = true) (hfs : ∀ f ∈ fs, FieldSaid f v true) : PartSaid fs v true := by
  intro G vs t c w hF ht hG hb
  have HB : Hid _ := hb
  have hFb := hF.bd
  obtain ⟨aF, pF, rfl, hpF⟩ := hF.shape
  obtain ⟨az, ps, al, pl, au, pu, rfl, hs, hl, hu, hn1, hn2, hn3, hn4⟩ := ht.cells
  have AT := fun W (hW : Keep [] w W) i => at_any (ht.keepF (hG.same hW) (fun _ h => h)) (hG.keep hW) i
  have KN := fun W (hW : Keep [] w W) => known_any (hF.keepF (hG.same hW) (fun _ h => h)) (hG.keep hW) hno
  have UN := fun W (hW : Keep [] w W) => unknown_any (hF.keepF (hG.same hW) (fun _ h => h)) (hu.keepF (hG.same hW) (fun _ h => h)) (hG.keep hW) hno
  have hkeys : ∀ x ∈ t.u, x.1 < 4294967296 := by obtain ⟨_, _, _, h3, _⟩ := hu; exact fun x hx => (h3 x hx).1
  have HPL : Hid (plainTo fs v true t fs.length ++ (uvarP (tdU fs t.u).length ++ ((tdU fs t.u).map tagP).flatten) = partP fs v true t) := Lib.hid (by rw [partP_untagged (noTags_un hno), plainTo_all, plainAt_eq fs 0 v true t (noTags_un hno)]; rfl)
  have HTU : Hid (tdU fs t.u = (unknownFrom 0 t.u).map fun x => (x.1, whole x.2)) := Lib.hid (by unfold tdU unknownP; rw [show knownP fs = 0 from known0 fs 0 (noTags_un hno)])
  clear hb hs hl hu
  go_enter Tryz.func58, Tryz.ntmps58
  go_wp2_with fail
  go_loopw [9, 23] (fun o k wr => ∃ n : Nat, n ≤ fs.length ∧ k = .int .i64 n ∧ OB wr (w.heap.size + 1) o (plainTo fs v true t n) ∧ Keep [] (w.alloc (.cells (tcells t az ps al pl au pu) 26)) wr) (fun _ k _ => fs.length - (intOf k).toNat)
  case atStart => exact ⟨0, Nat.zero_le _, rfl, by simpa [plainTo] using OB.nil _ _, Keep.refl _ _⟩
  case round =>
    obtain ⟨n, hn, rfl, hown, hkeep⟩ := hrel
    have hk := (keep_box _).trans hkeep
    have hbox : wr.heap[w.heap.size]? = some (.cells (tcells t az ps al pl au pu) 26) := by
      rw [hkeep.block _ (by simp) (by simp)]
      exact heap_alloc_new w _
    obtain ⟨r0, r1, r2, r3, r4⟩ := tbox hbox
    have HBX : Hid _ := hbox
    have hBr : w.heap.size + 1 ≤ wr.heap.size := by have := hkeep.size; simp at this; omega
    have hGr := hG.keep hk
    clear hbox
    by_cases hlt : n < fs.length
    · obtain ⟨b, o, cp, cf, e, hcp, hGb, hc, hcell⟩ := (hF.keepF (hG.same hk) (fun _ h => h)).elem hlt
      cases e
      have FS := hfs fs[n] (List.getElem_mem hlt)
      have hsucc := plainTo_succ fs v true t n hlt
      have hle := plainTo_le fs v true t (n + 1)
      obtain ⟨aS, pS, rfl, hsub⟩ := hc.cells
      have hblt : b < wr.heap.size := hGr b hGb
      have hbw : b < w.heap.size := hG b hGb
      have c0 : wr.cell? ⟨b, o + n * 8, none⟩ = some _ := hcell 0 (by simp)
      have c1 : wr.cell? ⟨b, o + n * 8 + 1, none⟩ = some _ := hcell 1 (by simp)
      have c2 : wr.cell? ⟨b, o + n * 8 + 2, none⟩ = some _ := hcell 2 (by simp)
      have c3 : wr.cell? ⟨b, o + n * 8 + 3, none⟩ = some _ := hcell 3 (by simp)
      have c4 : wr.cell? ⟨b, o + n * 8 + 4, none⟩ = some _ := hcell 4 (by simp)
      have c5 : wr.cell? ⟨b, o + n * 8 + 5, none⟩ = some _ := hcell 5 (by simp)
      have c6 : wr.cell? ⟨b, o + n * 8 + 6, none⟩ = some _ := hcell 6 (by simp)
      have c7 : wr.cell? ⟨b, o + n * 8 + 7, none⟩ = some _ := hcell 7 (by simp)
      simp only [List.getElem_cons_zero, List.getElem_cons_succ] at c0 c1 c2 c3 c4 c5 c6 c7
      clear hcell
      generalize hfn : fs[n] = f at *
      have HFN : Hid (fs[n] = f) := hfn
      have HS : Hid _ := hsucc
      have HLE : Hid _ := hle
      clear hfn hsucc hle
      have HAS := fun W (hW : Keep [] wr W) => has_any (hc.keepF (hGr.same hW) (fun _ h => h)) v
      by_cases h1 : f.tag < 0
      · cases hhas : f.has v
        · rw [hhas] at HAS
          have HH : Hid (f.has v = false) := hhas
          clear hhas
          go_wp2_with (go_at_call 125; refine (HAS _ (keep_box _)).mono ?_; rintro e wh ⟨rfl, hkh⟩)
          go_roundw
          case rel =>
            refine ⟨n + 1, by omega, by go_num, ?_, hkeep.trans ((keep_box _).trans hkh)⟩
            have e1 := HS.out
            rw [HH.out] at e1
            simp at e1
            rw [e1]
            exact hown.keep ((keep_box _).trans hkh)
          case measure => simp [intOf]; omega
        · rw [hhas] at HAS
          have HH : Hid (f.has v = true) := hhas
          clear hhas
          have hlen : (plainTo fs v true t n).length + (fieldP f v true (atT t n)).length ≤ 1099511627776 := by
            have e1 := HS.out
            rw [HH.out] at e1
            simp [h1] at e1
            have e2 := HLE.out
            have e3 := HB.out
            rw [e1, List.length_append] at e2
            omega
          have HLN : Hid _ := hlen
          clear hlen
          go_wp2_with (go_at_call 125; refine (HAS _ (keep_box _)).mono ?_; rintro e wh ⟨rfl, hkh⟩; clear c0 c1 c2 c3 c4 c5 c6 c7 r0 r1 r2 r3 r4)
          have kh : Keep [] wr wh := (keep_box _).trans hkh
          have hb1 := oneBox hkh
          have hb2 : wh.heap[w.heap.size]? = some (.cells (tcells t az ps al pl au pu) 26) := (kh.block _ (by omega) (by simp)).trans HBX.out
          have hS := FTS.of hb1 hb2
          have HB1 : Hid _ := hb1
          have HB2 : Hid _ := hb2
          clear hb1 hb2
          have hwh : wr.heap.size + 1 ≤ wh.heap.size := by have := hkh.size; simp at this; omega
          go_region_held3 (fun w' => w'.cell? ⟨wr.heap.size, 0, none⟩ = some (.int .i64 f.kind) ∧ w'.cell? ⟨wr.heap.size, 1, none⟩ = some (.int .i64 f.frm) ∧ w'.cell? ⟨wr.heap.size, 2, none⟩ = some (.int .i64 f.to) ∧ w'.cell? ⟨wr.heap.size, 3, none⟩ = some (.int .i64 f.nul) ∧ w'.cell? ⟨wr.heap.size, 4, none⟩ = some (.int .i64 f.tag) ∧ w'.cell? ⟨wr.heap.size, 5, none⟩ = some (.int .i64 f.dfl) ∧ w'.cell? ⟨wr.heap.size, 6, none⟩ = some (.int .i64 f.ofk) ∧ w'.cell? ⟨wr.heap.size, 7, none⟩ = some (.slice aS f.sub.length pS) ∧ w'.cell? ⟨w.heap.size, 0, none⟩ = some (.int .i64 t.n) ∧ w'.cell? ⟨w.heap.size, 1, none⟩ = some (.slice az t.s.length ps) ∧ w'.cell? ⟨w.heap.size, 2, none⟩ = some (.bool t.null) ∧ w'.cell? ⟨w.heap.size, 3, none⟩ = some (.slice al t.l.length pl) ∧ w'.cell? ⟨w.heap.size, 4, none⟩ = some (.slice au t.u.length pu)) (exact hS) (first
            | (go_at_call 127; refine (AT _ (hk.trans (kh.trans (Keep.refl _ _).drew)) n).mono ?_; rintro e wx ⟨c', rfl, hc', kx⟩; obtain ⟨az', ps', al', pl', au', pu', rfl, _⟩ := hc'.cells; have kX : Keep [] wh wx := (Keep.refl _ _).drew.trans kx; have hS := FTS.of ((kX.block _ (by omega) (by simp)).trans HB1.out) ((kX.block _ (by omega) (by simp)).trans HB2.out))
            | (go_at_call 126; refine (FS G _ _ _ _ (hc.keepF (hGr.same (kh.trans kX)) (fun _ h => h)) hc' (hGr.keep (kh.trans kX)) (by have := HLN.out; omega)).mono ?_; rintro e wy ⟨d, rfl, hd, ky⟩; have kY : Keep [] wh wy := kX.trans ky; have hS := FTS.of ((kY.block _ (by omega) (by simp)).trans HB1.out) ((kY.block _ (by omega) (by simp)).trans HB2.out))
            | (refine app_step (by rfl) (.tmp 36) (.tmp 43) (by rfl) (w.heap.size + 1) _ (plainTo fs v true t n) (by rfl) (hown.keep (kh.trans kY)) _ _ _ (by rfl) hd.rb (by have := HLN.out; omega) (Nat.le_trans hBr (kh.trans kY).size) ?_; intro v' w3 ho hg; have hk3 := (hkeep.trans (kh.trans kY)).grown hg (fun k e => .inr (by have := ((hown.keep (kh.trans kY)).lt k e).1; simp; omega)); have hsy := kY.size; have hS := FTS.of ((hg.block wr.heap.size (by omega) (fun e => by have := (hown.lt _ e.symm).2; omega)).trans ((kY.block _ (by omega) (by simp)).trans HB1.out)) ((hg.block w.heap.size (by omega) (fun e => by have := (hown.lt _ e.symm).1; omega)).trans ((kY.block _ (by omega) (by simp)).trans HB2.out))))
          go_wp2
          go_roundw
          case rel =>
            refine ⟨n + 1, by omega, by go_num, ?_, hk3⟩
            have e1 := HS.out
            rw [HH.out] at e1
            simp [h1] at e1
            rw [e1]
            exact ho
          case measure => simp [intOf]; omega
      · go_wp2_with fail
        go_roundw
        case rel =>
          refine ⟨n + 1, by omega, by go_num, ?_, hkeep.trans (keep_box _)⟩
          have e1 := HS.out
          simp [h1] at e1
          rw [e1]
          exact hown.keep (keep_box _)
        case measure => simp [intOf]; omega
    · obtain rfl : n = fs.length := by omega
      have hK1 := fun W (hW : Keep [] wr W) => KN W (hk.trans hW)
      have hU1 := fun W (hW : Keep [] wr W) => UN W (hk.trans hW)
      obtain ⟨wo, rfl⟩ : ∃ x : World, x = wr := ⟨_, rfl⟩
      clear KN UN hF ht
      go_wp2_with (go_at_call 128; go_loud (refine (hK1 _ (Keep.refl _ _)).mono ?_; rintro e w1 ⟨rfl, k1⟩))
      go_loopw [52, 10, 11] (fun k tv mv wr => k = .int .i64 0 ∧ tv = .slice none 0 0 ∧ mv = .int .i64 0 ∧ w1 = wr) (fun _ _ _ _ => 0)
      case atStart => exact ⟨rfl, rfl, rfl, rfl⟩
      case round =>
        obtain ⟨rfl, rfl, rfl, rfl⟩ := hrel
        have q3 := ((k1.cell (p := ⟨w.heap.size, 4, none⟩) (by simp; omega) (by simp)).trans r4)
        have HU1 : Hid _ := Lib.hid (hU1 w1 k1)
        clear hU1 hK1 r0 r1 r2 r3 r4
        go_wp2_with (go_at_call 131; go_loud (refine Calls.mono HU1.out ?_; rintro e w2 ⟨d2, rfl, hg2, k2⟩; obtain ⟨a2, p2, rfl⟩ := hg2.shape))
        have hus : ∀ x ∈ unknownFrom 0 t.u, x.1 < 4294967296 := fun x hx => hkeys x ((unknownP_spec [] t.u).2.1 x hx)
        have husl : (unknownFrom 0 t.u).length ≤ 32767 := (unknownP_spec [] t.u).2.2
        have HTU2 : Hid _ := Lib.hid HTU.out
        clear HTU hkeys
        generalize unknownFrom 0 t.u = us at *
        have hBt : ∀ n, ((((us.map fun x => (x.1, whole x.2)).take n).map tagP).flatten).length ≤ 1099511627776 := fun n => by
          have e1 := HPL.out
          have e2 := HB.out
          rw [← e1, HTU2.out] at e2
          have e3 : ((us.map fun x => (x.1, whole x.2)).map tagP).flatten = ((((us.map fun x => (x.1, whole x.2)).take n).map tagP).flatten) ++ ((((us.map fun x => (x.1, whole x.2)).drop n).map tagP).flatten) := by
            rw [← List.flatten_append, ← List.map_append, List.take_append_drop]
          rw [e3] at e2
          simp only [List.length_append] at e2
          omega
        have HBT : Hid _ := Lib.hid hBt
        have hG2 : There (fun k => G k ∨ (w1.heap.size ≤ k ∧ k < w2.heap.size)) w2 := fun k hk => by
          rcases hk with h | h
          · have a1 := hGr k h
            have a2 := k1.size
            have a3 := k2.size
            omega
          · exact h.2
        clear hBt
        go_loopw [102, 10, 11] (fun k tv mv wr => ∃ n : Nat, n ≤ us.length ∧ k = .int .i64 (n : Int) ∧ mv = .int .i64 (n : Int) ∧ OB wr w2.heap.size tv ((((us.map fun x => (x.1, whole x.2)).take n).map tagP).flatten) ∧ Keep [] w2 wr) (fun k _ _ _ => us.length - (intOf k).toNat)
        case atStart => exact ⟨0, Nat.zero_le _, rfl, rfl, by simpa using OB.nil _ _, Keep.refl _ _⟩
        case round =>
          obtain ⟨wq, rfl⟩ : ∃ x : World, x = wr := ⟨_, rfl⟩
          obtain ⟨n, hn, rfl, rfl, hot, kq⟩ := hrel
          have hzq := kq.size
          by_cases hlt : n < us.length
          · obtain ⟨tb, tf, av, pv, e, hGb, c0, c1, hrb, hrl⟩ := (hg2.keepF (hG2.same kq) (fun _ h => h)).elem hlt
            cases e
            have hk32 := hus _ (List.getElem_mem hlt)
            have htbl := hG2.keep kq tb hGb
            have WH := fun W (hW : Keep [] wq W) => whole_any (w := W) (hrb.keepF ((hG2.keep kq).same hW) (fun _ h => h)) (by omega)
            have hsuc : (((us.map fun x => (x.1, whole x.2)).take (n + 1)).map tagP).flatten = (((us.map fun x => (x.1, whole x.2)).take n).map tagP).flatten ++ (uvarP us[n].1 ++ uvarP (whole us[n].2).length ++ whole us[n].2) := by
              rw [List.take_succ_eq_append_getElem (by simpa using hlt)]
              simp [tagP]
            have hbn := HBT.out (n + 1)
            rw [hsuc] at hbn
            simp only [List.length_append] at hbn
            have HSUC : Hid _ := Lib.hid hsuc
            have hwl := whole_len us[n].2
            clear hsuc hrb
            generalize hkey : us[n].1 = key at *
            generalize hsl : us[n].2.length = sl at *
            generalize hwo : whole us[n].2 = wo2 at *
            generalize hacc : (((us.map fun x => (x.1, whole x.2)).take n).map tagP).flatten = acc at *
            clear hkey hsl hwo hacc
            have tok1 : Hid True := Lib.hid trivial
            go_wp2_with (first
              | (go_at_call 132; go_loud (refine (WH _ (keep_box _)).mono ?_; rintro e wx ⟨d3, rfl, hd3, rfl⟩; obtain ⟨a3, p3, rfl⟩ := RS.shape hd3; have hB0 := (keep_box (A := []) (w := wq) (.cells #[.int .u32 (key : Int), .slice av sl pv] 77)); clear c0 c1))
              | (go_at_call 130; have _t := tok1; go_loud (refine (uvar_any key (by omega) _).mono ?_; rintro e w3 ⟨d4, rfl, h4, k4⟩; have K4 := hB0.trans k4; have hz4 := K4.size; clear tok1 _t; have tok2 : Hid True := Lib.hid trivial))
              | (at_builtin; have _t := tok2; go_loud (refine app_ob rfl (.tmp 109) (.tmp 113) rfl w2.heap.size _ acc rfl (hot.keep K4) _ (uvarP key) _ rfl h4.rb (by omega) (by omega) ?_; intro v5 w5 h5 g5; have K5 : Keep [] w2 w5 := grow_keep (kq.trans K4) (hot.keep K4) (Nat.le_refl _) g5; have hz5 := K5.size; clear tok2 _t; have tok3 : Hid True := Lib.hid trivial))
              | (go_at_call 130; have _t := tok3; go_loud (refine (uvar_any wo2.length (by omega) _).mono ?_; rintro e w6 ⟨d6, rfl, h6, k6⟩; have K6 := K5.trans k6; have hz6 := K6.size; clear tok3 _t; have tok4 : Hid True := Lib.hid trivial))
              | (at_builtin; have _t := tok4; go_loud (refine app_ob rfl (.tmp 114) (.tmp 118) rfl w2.heap.size _ (acc ++ uvarP key) rfl (h5.keep k6) _ (uvarP wo2.length) _ rfl h6.rb (by simp only [List.length_append]; omega) (by omega) ?_; intro v7 w7 h7 g7; have K7 : Keep [] w2 w7 := grow_keep K6 (h5.keep k6) (Nat.le_refl _) g7; have hz7 := K7.size; have SM : SameOn (fun k => G k ∨ (w1.heap.size ≤ k ∧ k < w2.heap.size)) w2 w7 := hG2.same K7; clear tok4 _t; have tok5 : Hid True := Lib.hid trivial))
              | (at_builtin; have _t := tok5; go_loud (refine app_ob rfl (.tmp 119) (.tmp 120) rfl w2.heap.size _ ((acc ++ uvarP key) ++ uvarP wo2.length) rfl h7 _ wo2 _ rfl (hd3.keepF (fun k hk => (SM k hk).trans (((hG2.same (kq.trans hB0)) k hk).symm)) (fun _ h => h)) (by simp only [List.length_append]; omega) (by omega) ?_; intro v8 w8 h8 g8; have K8 : Keep [] w2 w8 := grow_keep K7 h7 (Nat.le_refl _) g8; clear tok5 _t)))
            go_roundw
            case rel => exact ⟨n + 1, by omega, by go_num, by go_num, by rw [HSUC.out, ← List.append_assoc, ← List.append_assoc]; exact h8, K8⟩
            case measure => simp [intOf]; omega
          · obtain rfl : n = us.length := by omega
            have hall : (((us.map fun x => (x.1, whole x.2)).take us.length).map tagP).flatten = ((us.map fun x => (x.1, whole x.2)).map tagP).flatten := by
              rw [List.take_of_length_le (by simp)]
            rw [hall] at hot
            have HALL : Hid _ := Lib.hid hot
            have hb2 := HBT.out us.length
            rw [hall] at hb2
            have hpl := HPL.out
            rw [HTU2.out, List.length_map] at hpl
            have HPL2 : Hid _ := Lib.hid hpl
            have hbb : (plainTo fs v true t fs.length).length + ((uvarP us.length).length + (((us.map fun x => (x.1, whole x.2)).map tagP).flatten).length) ≤ 1099511627776 := by
              have e := HB.out
              rw [← hpl] at e
              simpa only [List.length_append] using e
            have hoo := hown.keep (k1.trans (k2.trans kq))
            have HGK : Hid _ := Lib.hid (fun k e => hown.lt k e)
            clear hall hot hpl hb2 hown
            generalize ((us.map fun x => (x.1, whole x.2)).map tagP).flatten = tg at *
            generalize plainTo fs v true t fs.length = pl0 at *
            have hz1 := k1.size
            have hz2 := k2.size
            have tok1 : Hid True := Lib.hid trivial
            go_wp2_with (first
              | (go_at_call 130; go_loud (refine (uvar_any us.length (by omega) _).mono ?_; rintro e w3 ⟨d4, rfl, h4, k4⟩; have hz4 := k4.size))
              | (at_builtin; have _t := tok1; go_loud (refine app_ob rfl (.tmp 125) (.tmp 128) rfl (w.heap.size + 1) _ pl0 rfl (hoo.keep k4) _ (uvarP us.length) _ rfl h4.rb (by omega) (by omega) ?_; intro v5 w5 h5 g5; have hgk := HGK.out; clear tok1 _t; have tok2 : Hid True := Lib.hid trivial))
              | (at_builtin; have _t := tok2; go_loud (refine app_ob rfl (.tmp 129) (.tmp 130) rfl (w.heap.size + 1) _ (pl0 ++ uvarP us.length) rfl h5 _ tg (fun k => w2.heap.size ≤ k ∧ k < wq.heap.size) rfl (HALL.out.rb.keepF (fun k hk => (g5.block k (by omega) (fun e => by have := hgk k e.symm; omega)).trans (k4.block k hk.2 (by simp))) (fun _ h => h)) (by simp only [List.length_append]; omega) (by have := g5.size; omega) ?_; intro v8 w8 h8 g8; clear tok2 _t)))
            go_ret
            have KZ : Keep [] w w8 := (((hk.trans (k1.trans (k2.trans (kq.trans k4)))).grown g5 (fun k e => .inr (by have := hgk k e; omega))).grown g8 (fun k e => .inr (by have := (h5.lt k e).1; omega)))
            refine ⟨_, rfl, ?_, KZ⟩
            rw [← HPL2.out, ← List.append_assoc]
            exact h8.lower (by omega)
theorem un_noTags : ∀ {fs : List F}, untagged fs = true → noTags fs = true
  | [], _ => rfl
  | f :: r, h => by
    simp only [untagged, Bool.and_eq_true] at h
    simp only [noTags, Bool.and_eq_true]
    exact ⟨h.1, un_noTags h.2⟩
mutual
theorem fieldSaid_flex (v : Int) : ∀ f, wfF true f = true → FieldSaid f v true
  | .mk k a b c d e o sub, h => by
    have hs : wfFs true sub = true := by
      simp only [wfF, Bool.and_eq_true] at h
      exact h.1.2
    exact field_any (f := .mk k a b c d e o sub) (part_flex (fs := sub) (un_noTags (wfFs_untagged hs)) (fieldsSaid_flex v sub hs))
theorem fieldsSaid_flex (v : Int) : ∀ (fs : List F), wfFs true fs = true → ∀ f ∈ fs, FieldSaid f v true
  | [], _, _, h => absurd h (by simp)
  | g :: r, hw, f, h => by
    simp only [wfFs, Bool.and_eq_true] at hw
    rcases List.mem_cons.1 h with e | h'
    · rw [e]; exact fieldSaid_flex v g hw.1
    · exact fieldsSaid_flex v r hw.2 f h'
end
/-- spec.part at the fields of every message without tagged fields -/
theorem partSaid_wf (fs : List F) (v : Int) (flex : Bool) (h : flex = true → wfFs true fs = true) : PartSaid fs v flex := by
  cases flex with
  | false => exact partSaid_plain fs v
  | true => exact part_flex (un_noTags (wfFs_untagged (h rfl))) (fieldsSaid_flex v fs (h rfl))
end Go.Proofs.YtobbchmjgoaleaaGreatDoor
