/-
  spec.part at every message's fields where the version is not flexible; spec.Write, spec.Kept, spec.Same.
-/
import Derived.Test.YtnemimighhpcaaaDoorSpecG
namespace Go.Proofs.YtnemimighhpcaaaDoor
open Go.ChangeShapes Go.WideShapes Go.ChangeAt Go.RowKit

mutual
theorem fieldSaid_plain (v : Int) : ∀ f, FieldSaid f v false
  | .mk k a b c d e o sub => field_any (f := .mk k a b c d e o sub) (part_plain (fs := sub) (fieldsSaid_plain v sub))
theorem fieldsSaid_plain (v : Int) : ∀ (fs : List F), ∀ f ∈ fs, FieldSaid f v false
  | [], _, h => absurd h (by simp)
  | g :: r, f, h => by
    rcases List.mem_cons.1 h with e | h'
    · rw [e]; exact fieldSaid_plain v g
    · exact fieldsSaid_plain v r f h'
end
theorem partSaid_plain (fs : List F) (v : Int) : PartSaid fs v false := part_plain (fieldsSaid_plain v fs)

/-- what a message lies as: its fields, its first flexible version -/
def HM (w : World) (G : Nat → Prop) (m : Msg) (c : List Value) : Prop := ∃ ao cap, c = [.slice ao m.fields.length cap, .int .i64 m.flex] ∧ HFs w G (.slice ao m.fields.length cap) m.fields
theorem HM.keepF {w w' : World} {F' G : Nat → Prop} {m : Msg} {c : List Value} (h : HM w F' m c) (hs : SameOn F' w w') (hg : ∀ k, F' k → G k) : HM w' G m c := by
  obtain ⟨ao, cap, e, h1⟩ := h
  exact ⟨ao, cap, e, h1.keepF hs hg⟩

abbrev mcells (m : Msg) (ao : Option Addr) (cap : Nat) : Array Value := #[.slice ao m.fields.length cap, .int .i64 m.flex]

set_option maxHeartbeats 400000 in
set_option maxRecDepth 100000 in
theorem write_any {G : Nat → Prop} {m : Msg} {v : Int} (hp : PartSaid m.fields v (m.flexible v)) {cm : List Value} {t : T} {ct : List Value} {w : World} (hm : HM w G m cm) (ht : HT w G t ct) (hG : There G w) (hb : (writeP m v t).length ≤ 1099511627776) :
    Calls Tryd.prog 15 #[.agg cm.toArray, .int .i64 v, .agg ct.toArray] w fun e w' => ∃ d, e = .returned d ∧ OB w' w.heap.size d (writeP m v t) ∧ Keep [] w w' := by
  obtain ⟨ao, cap, rfl, hF⟩ := hm
  have PP := fun W (hW : Keep [] w W) => hp.at hF ht hG hW hb
  obtain ⟨az, ps, al, pl, au, pu, rfl, hs, hl, hu, hn1, hn2, hn3, hn4⟩ := ht.cells
  clear hb hs hl hu ht hF hp
  unfold writeP
  unfold Msg.flexible at PP ⊢
  generalize m.flex = x at *
  by_cases h1 : 0 ≤ x
  · by_cases h2 : x ≤ v
    · have hd : (decide (0 ≤ x) && decide (x ≤ v)) = true := by simp [h1, h2]
      rw [hd] at PP ⊢
      clear hd
      go_enter Tryd.func15, Tryd.ntmps15
      go_wp2_with (go_at_call 47; refine (PP _ ((keep_box _).alloc _)).mono ?_; rintro e w' ⟨d, rfl, g1, g2⟩)
      go_ret
      exact ⟨_, rfl, g1.lower (by simp; omega), ((keep_box _).alloc _).trans g2⟩
    · have hd : (decide (0 ≤ x) && decide (x ≤ v)) = false := by simp [h2]
      rw [hd] at PP ⊢
      clear hd
      go_enter Tryd.func15, Tryd.ntmps15
      go_wp2_with (go_at_call 47; refine (PP _ ((keep_box _).alloc _)).mono ?_; rintro e w' ⟨d, rfl, g1, g2⟩)
      go_ret
      exact ⟨_, rfl, g1.lower (by simp; omega), ((keep_box _).alloc _).trans g2⟩
  · have hd : (decide (0 ≤ x) && decide (x ≤ v)) = false := by simp [h1]
    rw [hd] at PP ⊢
    clear hd
    go_enter Tryd.func15, Tryd.ntmps15
    go_wp2_with (go_at_call 47; refine (PP _ ((keep_box _).alloc _)).mono ?_; rintro e w' ⟨d, rfl, g1, g2⟩)
    go_ret
    exact ⟨_, rfl, g1.lower (by simp; omega), ((keep_box _).alloc _).trans g2⟩

theorem Keep.drewN {A : List Nat} {w w1 : World} (h : Keep A w w1) (n : Nat) : Keep A w (w1.drewN n) := ⟨h.os, h.tape, h.output, h.size, h.block⟩
theorem RB.nth {w : World} {G : Nat → Prop} {az : Option Addr} {n p : Nat} {l : Bs} (h : RB w G (.slice az n p) l) {i : Nat} (hi : i < l.length) :
    ∃ b o, az = some ⟨b, o, none⟩ ∧ w.cell? ⟨b, o + i, none⟩ = some (.int .u8 (l[i].toNat : Int)) := by
  obtain ⟨ao, cap, e, h1, h2, h3⟩ := h
  cases e
  cases az with
  | none => have := (h2 rfl).1; omega
  | some a =>
    obtain ⟨b, o, sp⟩ := a
    obtain ⟨g1, g2⟩ := h3 _ rfl
    simp only at g1
    subst g1
    exact ⟨b, o, rfl, by rw [(g2 i (by simpa using hi)).2]; simp [bv]⟩
set_option maxHeartbeats 400000 in
set_option maxRecDepth 100000 in
theorem same_any {G G' : Nat → Prop} {va vb : Value} {a b : Bs} {w : World} (ha : RB w G va a) (hb : RB w G' vb b) (hla : a.length ≤ 1099511627776) (hlb : b.length ≤ 1099511627776) :
    Calls Tryd.prog 17 #[va, vb] w fun e w' => e = .returned (.bool (a == b)) ∧ Keep [] w w' := by
  obtain ⟨aa, ca, rfl⟩ := RS.shape ha
  obtain ⟨ab, cb, rfl⟩ := RS.shape hb
  by_cases hne : a.length = b.length
  · have hne' : ((a.length : Int) != (b.length : Int)) = false := by simp [hne]
    have HNE : Hid (a.length = b.length) := hne
    have hle1 : a.length ≤ b.length := by omega
    have hle2 : b.length ≤ a.length := by omega
    clear hne
    go_enter Tryd.func17, Tryd.ntmps17
    go_wp2
    go_loopw [13] (fun k wr => ∃ n : Nat, n ≤ a.length ∧ k = .int .i64 n ∧ Hid (a.take n = b.take n) ∧ ∃ q, wr = w.drewN q) (fun k _ => a.length - (intOf k).toNat)
    case atStart => exact ⟨0, Nat.zero_le _, rfl, by simp [Hid], 0, rfl⟩
    case round =>
      obtain ⟨n, hn, rfl, hpre, q, rfl⟩ := hrel
      by_cases hlt : n < a.length
      · have hltb : n < b.length := by omega
        obtain ⟨ba, oa, rfl, hca⟩ := ha.nth hlt
        obtain ⟨bb, ob, rfl, hcb⟩ := hb.nth hltb
        by_cases hx : a[n] = b[n]
        · have hd : ((a[n].toNat : Int) != (b[n].toNat : Int)) = false := by simp [hx]
          have HX : Hid (a[n] = b[n]) := hx
          clear hx
          go_wp2
          go_quiet (fail)
          go_wp2
          refine ⟨⟨n + 1, by omega, by go_num, ?_, _, rfl⟩, by simp [intOf]; omega⟩
          show _ = _
          rw [List.take_succ_eq_append_getElem hlt, List.take_succ_eq_append_getElem hltb, hpre.out, HX.out]
        · have hd : ((a[n].toNat : Int) != (b[n].toNat : Int)) = true := by
            rw [bne_iff_ne]
            intro h
            exact hx (UInt8.toNat_inj.1 (by omega))
          have HX : Hid (¬ a[n] = b[n]) := hx
          clear hx
          go_wp2
          go_quiet (fail)
          go_wp2
          go_ret
          refine ⟨?_, ((Keep.refl _ _).drewN _).drewN _⟩
          have hf : (a == b) = false := by
            rw [beq_eq_false_iff_ne]
            intro h
            subst h
            exact HX.out rfl
          rw [hf]
          rfl
      · go_wp2
        go_ret
        refine ⟨?_, (Keep.refl _ _).drewN _⟩
        have hp := hpre.out
        rw [List.take_of_length_le (by omega), List.take_of_length_le (by omega)] at hp
        rw [hp]
        simp
  · have hne' : ((a.length : Int) != (b.length : Int)) = true := by simp; omega
    have hf : (a == b) = false := by
      rw [beq_eq_false_iff_ne]
      intro h
      exact hne (by rw [h])
    rw [hf]
    clear hne hf
    go_enter Tryd.func17, Tryd.ntmps17
    go_wp2
    go_ret
    exact ⟨rfl, Keep.refl _ _⟩

abbrev MTS (m : Msg) (ao : Option Addr) (cap : Nat) (t : T) (az : Option Addr) (ps : Nat) (al : Option Addr) (pl : Nat) (au : Option Addr) (pu : Nat) (b1 b2 : Nat) (w' : World) : Prop := w'.cell? ⟨b1, 0, none⟩ = some (.slice ao m.fields.length cap) ∧ w'.cell? ⟨b1, 1, none⟩ = some (.int .i64 m.flex) ∧ w'.cell? ⟨b2, 0, none⟩ = some (.int .i64 t.n) ∧ w'.cell? ⟨b2, 1, none⟩ = some (.slice az t.s.length ps) ∧ w'.cell? ⟨b2, 2, none⟩ = some (.bool t.null) ∧ w'.cell? ⟨b2, 3, none⟩ = some (.slice al t.l.length pl) ∧ w'.cell? ⟨b2, 4, none⟩ = some (.slice au t.u.length pu)
theorem MTS.of {m : Msg} {ao : Option Addr} {cap : Nat} {t : T} {az : Option Addr} {ps : Nat} {al : Option Addr} {pl : Nat} {au : Option Addr} {pu b1 b2 : Nat} {w : World} {T1 T2 : TypeId} {z1 z2 : Nat × Nat}
    (h1 : w.heap[b1]? = some (.cells (mcells m ao cap) T1 z1)) (h2 : w.heap[b2]? = some (.cells (tcells t az ps al pl au pu) T2 z2)) : MTS m ao cap t az ps al pl au pu b1 b2 w := by
  obtain ⟨r0, r1, r2, r3, r4⟩ := tbox h2
  exact ⟨cellOf h1 0 _ rfl, cellOf h1 1 _ rfl, r0, r1, r2, r3, r4⟩
set_option maxHeartbeats 400000 in
set_option maxRecDepth 100000 in
theorem kept_any {G : Nat → Prop} {m : Msg} {v : Int} (hp : PartSaid m.fields v (m.flexible v)) {cm : List Value} {t : T} {ct : List Value} {w : World} (hm : HM w G m cm) (ht : HT w G t ct) (hG : There G w) (hb : (writeP m v t).length ≤ 1099511627775) :
    Calls Tryd.prog 43 #[.agg cm.toArray, .int .i64 v, .agg ct.toArray] w fun e w' => ∃ d, e = .returned d ∧ OB w' w.heap.size d (keptP m v t) ∧ Keep [] w w' := by
  have WW := fun W (hW : Keep [] w W) => write_any hp (hm.keepF (hG.same hW) (fun _ h => h)) (ht.keepF (hG.same hW) (fun _ h => h)) (hG.keep hW) (by omega)
  obtain ⟨ao, cap, rfl, hF⟩ := hm
  obtain ⟨az, ps, al, pl, au, pu, rfl, hs, hl, hu, hn1, hn2, hn3, hn4⟩ := ht.cells
  have e0 : ((2 : Nat) : Int) = 2 := rfl
  have F2 := fun W => fixed_any v 2 (by decide) W
  rw [e0] at F2
  have K1 : Keep [] w ((w.alloc (.cells (mcells m ao cap) 31)).alloc (.cells (tcells t az ps al pl au pu) 26)) := (keep_box _).alloc _
  have hb1 := (twoBoxes (Keep.refl [] ((w.alloc (.cells (mcells m ao cap) 31)).alloc (.cells (tcells t az ps al pl au pu) 26)))).1
  have hb2 := (twoBoxes (Keep.refl [] ((w.alloc (.cells (mcells m ao cap) 31)).alloc (.cells (tcells t az ps al pl au pu) 26)))).2
  have HB1 : Hid _ := hb1
  have HB2 : Hid _ := hb2
  have hS := MTS.of hb1 hb2
  have HB : Hid _ := hb
  clear hb hs hl hu ht hF hp e0 hb1 hb2
  have hw1 : w.heap.size + 2 ≤ ((w.alloc (.cells (mcells m ao cap) 31)).alloc (.cells (tcells t az ps al pl au pu) 26)).heap.size := by simp
  go_enter Tryd.func43, Tryd.ntmps43
  go_wp2_with fail
  go_region_held3 (fun w' => w'.cell? ⟨w.heap.size, 0, none⟩ = some (.slice ao m.fields.length cap) ∧ w'.cell? ⟨w.heap.size, 1, none⟩ = some (.int .i64 m.flex) ∧ w'.cell? ⟨w.heap.size + 1, 0, none⟩ = some (.int .i64 t.n) ∧ w'.cell? ⟨w.heap.size + 1, 1, none⟩ = some (.slice az t.s.length ps) ∧ w'.cell? ⟨w.heap.size + 1, 2, none⟩ = some (.bool t.null) ∧ w'.cell? ⟨w.heap.size + 1, 3, none⟩ = some (.slice al t.l.length pl) ∧ w'.cell? ⟨w.heap.size + 1, 4, none⟩ = some (.slice au t.u.length pu)) (exact hS) (first
    | (go_at_call 97; refine (F2 _).mono ?_; rintro e wa ⟨da, rfl, ha0, ka⟩; have ha := ha0.lower (B' := w.heap.size + 2) (by first | exact hw1 | exact Nat.le_trans hw1 kB.size); have kA : Keep [] ((w.alloc (.cells (mcells m ao cap) 31)).alloc (.cells (tcells t az ps al pl au pu) 26)) wa := (by first | exact (Keep.refl _ _).drew.trans ka | exact kB.trans ka); have hS := MTS.of ((kA.block _ (by omega) (by simp)).trans HB1.out) ((kA.block _ (by omega) (by simp)).trans HB2.out))
    | (go_at_call 15; refine (WW _ (by first | exact K1.trans (Keep.refl _ _).drew | exact K1.trans kA)).mono ?_; rintro e wb ⟨db, rfl, hb0, kb⟩; have hb := hb0.lower (B' := w.heap.size + 2) (by first | exact hw1 | exact Nat.le_trans hw1 kA.size); have kB : Keep [] ((w.alloc (.cells (mcells m ao cap) 31)).alloc (.cells (tcells t az ps al pl au pu) 26)) wb := (by first | exact (Keep.refl _ _).drew.trans kb | exact kA.trans kb); have hS := MTS.of ((kB.block _ (by omega) (by simp)).trans HB1.out) ((kB.block _ (by omega) (by simp)).trans HB2.out))
    | (refine app_step (by rfl) (.tmp 8) (.tmp 12) (by rfl) (w.heap.size + 2) _ (fixedP v 2) (by rfl) (ha.keep kb) _ _ _ (by rfl) hb.rb (by have := HB.out; rw [fixedP_len]; omega) (Nat.le_trans hw1 kB.size) ?_; intro v' w3 ho hg; have hout := (K1.trans kB).grown hg (fun k e => .inr (by have := ((ha.keep kb).lt k e).1; omega)); have hsz := kB.size; have hS := MTS.of ((hg.block w.heap.size (by omega) (fun e => by have := ((ha.keep kb).lt _ e.symm).1; omega)).trans ((kB.block _ (by omega) (by simp)).trans HB1.out)) ((hg.block (w.heap.size + 1) (by omega) (fun e => by have := ((ha.keep kb).lt _ e.symm).1; omega)).trans ((kB.block _ (by omega) (by simp)).trans HB2.out)))
    | (refine app_step (by rfl) (.tmp 8) (.tmp 12) (by rfl) (w.heap.size + 2) _ (fixedP v 2) (by rfl) ha _ _ _ (by rfl) (hb.keep ka).rb (by have := HB.out; rw [fixedP_len]; omega) (Nat.le_trans hw1 kA.size) ?_; intro v' w3 ho hg; have hout := (K1.trans kA).grown hg (fun k e => .inr (by have := (ha.lt k e).1; omega)); have hsz := kA.size; have hS := MTS.of ((hg.block w.heap.size (by omega) (fun e => by have := (ha.lt _ e.symm).1; omega)).trans ((kA.block _ (by omega) (by simp)).trans HB1.out)) ((hg.block (w.heap.size + 1) (by omega) (fun e => by have := (ha.lt _ e.symm).1; omega)).trans ((kA.block _ (by omega) (by simp)).trans HB2.out))))
  all_goals
    go_wp2
    go_ret
    exact ⟨_, rfl, ho.lower (by omega), hout⟩
end Go.Proofs.YtnemimighhpcaaaDoor
