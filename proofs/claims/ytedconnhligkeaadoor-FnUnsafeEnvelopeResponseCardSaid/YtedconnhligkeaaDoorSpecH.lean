/-
  spec.part at every message's fields where the version is not flexible; spec.Write, spec.Kept, spec.Same.
-/
import Derived.Test.YtedconnhligkeaaDoorSpecG
namespace Go.Proofs.YtedconnhligkeaaDoor
open Go.ChangeShapes Go.WideShapes Go.ChangeAt Go.RowKit

/-- what a message lies as: its fields, its first flexible version -/
def HM (w : World) (G : Nat → Prop) (m : Msg) (c : List Value) : Prop := ∃ ao cap, c = [.slice ao m.fields.length cap, .int .i64 m.flex] ∧ HFs w G (.slice ao m.fields.length cap) m.fields
theorem HM.keepF {w w' : World} {F' G : Nat → Prop} {m : Msg} {c : List Value} (h : HM w F' m c) (hs : SameOn F' w w') (hg : ∀ k, F' k → G k) : HM w' G m c := by
  obtain ⟨ao, cap, e, h1⟩ := h
  exact ⟨ao, cap, e, h1.keepF hs hg⟩

abbrev mcells (m : Msg) (ao : Option Addr) (cap : Nat) : Array Value := #[.slice ao m.fields.length cap, .int .i64 m.flex]

theorem Keep.drewN {A : List Nat} {w w1 : World} (h : Keep A w w1) (n : Nat) : Keep A w (w1.drewN n) := ⟨h.os, h.tape, h.output, h.size, h.block⟩
theorem RB.nth {w : World} {G : Nat → Prop} {az : Option Addr} {n p : Nat} {l : Bs} (h : RB w G (.slice az n p) l) {i : Nat} (hi : i < l.length) :
    ∃ b o, az = some ⟨b, o, none⟩ ∧ w.cell? ⟨b, o + i, none⟩ = some (.int .u8 (l[i].toNat : Int)) := by
  obtain ⟨ao, cap, e, h1, h2, h3⟩ := h
  cases e
  cases az with
  | none => have := (h2 rfl).1; omega
  | some a =>
    obtain ⟨b, o, sp⟩ := a
    obtain ⟨g1, g2⟩ := h3 _ rfl
    simp only at g1
    subst g1
    exact ⟨b, o, rfl, by rw [(g2 i (by simpa using hi)).2]; simp [bv]⟩
set_option maxHeartbeats 400000 in
set_option maxRecDepth 100000 in
theorem same_any {G G' : Nat → Prop} {va vb : Value} {a b : Bs} {w : World} (ha : RB w G va a) (hb : RB w G' vb b) (hla : a.length ≤ 1099511627776) (hlb : b.length ≤ 1099511627776) :
    Calls Tryd.prog 20 #[va, vb] w fun e w' => e = .returned (.bool (a == b)) ∧ Keep [] w w' := by
  obtain ⟨aa, ca, rfl⟩ := RS.shape ha
  obtain ⟨ab, cb, rfl⟩ := RS.shape hb
  by_cases hne : a.length = b.length
  · have hne' : ((a.length : Int) != (b.length : Int)) = false := by simp [hne]
    have HNE : Hid (a.length = b.length) := hne
    have hle1 : a.length ≤ b.length := by omega
    have hle2 : b.length ≤ a.length := by omega
    clear hne
    go_enter Tryd.func20, Tryd.ntmps20
    go_wp2
    go_loopw [13] (fun k wr => ∃ n : Nat, n ≤ a.length ∧ k = .int .i64 n ∧ Hid (a.take n = b.take n) ∧ ∃ q, wr = w.drewN q) (fun k _ => a.length - (intOf k).toNat)
    case atStart => exact ⟨0, Nat.zero_le _, rfl, by simp [Hid], 0, rfl⟩
    case round =>
      obtain ⟨n, hn, rfl, hpre, q, rfl⟩ := hrel
      by_cases hlt : n < a.length
      · have hltb : n < b.length := by omega
        obtain ⟨ba, oa, rfl, hca⟩ := ha.nth hlt
        obtain ⟨bb, ob, rfl, hcb⟩ := hb.nth hltb
        by_cases hx : a[n] = b[n]
        · have hd : ((a[n].toNat : Int) != (b[n].toNat : Int)) = false := by simp [hx]
          have HX : Hid (a[n] = b[n]) := hx
          clear hx
          go_wp2
          go_quiet (fail)
          go_wp2
          refine ⟨⟨n + 1, by omega, by go_num, ?_, _, rfl⟩, by simp [intOf]; omega⟩
          show _ = _
          rw [List.take_succ_eq_append_getElem hlt, List.take_succ_eq_append_getElem hltb, hpre.out, HX.out]
        · have hd : ((a[n].toNat : Int) != (b[n].toNat : Int)) = true := by
            rw [bne_iff_ne]
            intro h
            exact hx (UInt8.toNat_inj.1 (by omega))
          have HX : Hid (¬ a[n] = b[n]) := hx
          clear hx
          go_wp2
          go_quiet (fail)
          go_wp2
          go_ret
          refine ⟨?_, ((Keep.refl _ _).drewN _).drewN _⟩
          have hf : (a == b) = false := by
            rw [beq_eq_false_iff_ne]
            intro h
            subst h
            exact HX.out rfl
          rw [hf]
          rfl
      · go_wp2
        go_ret
        refine ⟨?_, (Keep.refl _ _).drewN _⟩
        have hp := hpre.out
        rw [List.take_of_length_le (by omega), List.take_of_length_le (by omega)] at hp
        rw [hp]
        simp
  · have hne' : ((a.length : Int) != (b.length : Int)) = true := by simp; omega
    have hf : (a == b) = false := by
      rw [beq_eq_false_iff_ne]
      intro h
      exact hne (by rw [h])
    rw [hf]
    clear hne hf
    go_enter Tryd.func20, Tryd.ntmps20
    go_wp2
    go_ret
    exact ⟨rfl, Keep.refl _ _⟩

abbrev MTS (m : Msg) (ao : Option Addr) (cap : Nat) (t : T) (az : Option Addr) (ps : Nat) (al : Option Addr) (pl : Nat) (au : Option Addr) (pu : Nat) (b1 b2 : Nat) (w' : World) : Prop := w'.cell? ⟨b1, 0, none⟩ = some (.slice ao m.fields.length cap) ∧ w'.cell? ⟨b1, 1, none⟩ = some (.int .i64 m.flex) ∧ w'.cell? ⟨b2, 0, none⟩ = some (.int .i64 t.n) ∧ w'.cell? ⟨b2, 1, none⟩ = some (.slice az t.s.length ps) ∧ w'.cell? ⟨b2, 2, none⟩ = some (.bool t.null) ∧ w'.cell? ⟨b2, 3, none⟩ = some (.slice al t.l.length pl) ∧ w'.cell? ⟨b2, 4, none⟩ = some (.slice au t.u.length pu)
theorem MTS.of {m : Msg} {ao : Option Addr} {cap : Nat} {t : T} {az : Option Addr} {ps : Nat} {al : Option Addr} {pl : Nat} {au : Option Addr} {pu b1 b2 : Nat} {w : World} {T1 T2 : TypeId} {z1 z2 : Nat × Nat}
    (h1 : w.heap[b1]? = some (.cells (mcells m ao cap) T1 z1)) (h2 : w.heap[b2]? = some (.cells (tcells t az ps al pl au pu) T2 z2)) : MTS m ao cap t az ps al pl au pu b1 b2 w := by
  obtain ⟨r0, r1, r2, r3, r4⟩ := tbox h2
  exact ⟨cellOf h1 0 _ rfl, cellOf h1 1 _ rfl, r0, r1, r2, r3, r4⟩
end Go.Proofs.YtedconnhligkeaaDoor
