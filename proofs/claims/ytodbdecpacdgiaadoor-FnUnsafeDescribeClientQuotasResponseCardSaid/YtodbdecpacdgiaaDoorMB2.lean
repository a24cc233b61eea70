/-
  spec.field: what is written of a field. The part's contract is handed over.
-/
import Derived.Test.YtodbdecpacdgiaaDoorMB1
import Derived.Deep.AppendLies
import Derived.Deep.RegionLaw
namespace Go.Proofs.YtodbdecpacdgiaaDoor
open Go.ChangeShapes Go.WideShapes Go.ChangeAt Go.RowKit

abbrev fcells (f : F) (ao : Option Addr) (cap : Nat) : Array Value := #[.int .i64 f.kind, .int .i64 f.frm, .int .i64 f.to, .int .i64 f.nul, .int .i64 f.tag, .int .i64 f.dfl, .int .i64 f.ofk, .slice ao f.sub.length cap]
abbrev tcells (t : T) (az : Option Addr) (ps : Nat) (al : Option Addr) (pl : Nat) (au : Option Addr) (pu : Nat) : Array Value := #[.int .i64 t.n, .slice az t.s.length ps, .bool t.null, .slice al t.l.length pl, .slice au t.u.length pu]

theorem cellOf {w : World} {b : Nat} {c : Array Value} {t : TypeId} {f : Nat × Nat} (h : w.heap[b]? = some (.cells c t f)) (i : Nat) (v : Value) (hv : c[i]? = some v) : w.cell? ⟨b, i, none⟩ = some v := by
  simp [World.cell?, h, hv]
theorem fbox {w : World} {b : Nat} {f : F} {ao : Option Addr} {cap : Nat} {T' : TypeId} {z : Nat × Nat} (h : w.heap[b]? = some (.cells (fcells f ao cap) T' z)) :
    w.cell? ⟨b, 0, none⟩ = some (.int .i64 f.kind) ∧ w.cell? ⟨b, 1, none⟩ = some (.int .i64 f.frm) ∧ w.cell? ⟨b, 2, none⟩ = some (.int .i64 f.to) ∧ w.cell? ⟨b, 3, none⟩ = some (.int .i64 f.nul) ∧
    w.cell? ⟨b, 4, none⟩ = some (.int .i64 f.tag) ∧ w.cell? ⟨b, 5, none⟩ = some (.int .i64 f.dfl) ∧ w.cell? ⟨b, 6, none⟩ = some (.int .i64 f.ofk) ∧ w.cell? ⟨b, 7, none⟩ = some (.slice ao f.sub.length cap) :=
  ⟨cellOf h 0 _ rfl, cellOf h 1 _ rfl, cellOf h 2 _ rfl, cellOf h 3 _ rfl, cellOf h 4 _ rfl, cellOf h 5 _ rfl, cellOf h 6 _ rfl, cellOf h 7 _ rfl⟩
theorem tbox {w : World} {b : Nat} {t : T} {az : Option Addr} {ps : Nat} {al : Option Addr} {pl : Nat} {au : Option Addr} {pu : Nat} {T' : TypeId} {z : Nat × Nat} (h : w.heap[b]? = some (.cells (tcells t az ps al pl au pu) T' z)) :
    w.cell? ⟨b, 0, none⟩ = some (.int .i64 t.n) ∧ w.cell? ⟨b, 1, none⟩ = some (.slice az t.s.length ps) ∧ w.cell? ⟨b, 2, none⟩ = some (.bool t.null) ∧ w.cell? ⟨b, 3, none⟩ = some (.slice al t.l.length pl) ∧ w.cell? ⟨b, 4, none⟩ = some (.slice au t.u.length pu) :=
  ⟨cellOf h 0 _ rfl, cellOf h 1 _ rfl, cellOf h 2 _ rfl, cellOf h 3 _ rfl, cellOf h 4 _ rfl⟩
/-- a field's box and a tree's box, cell by cell -/
abbrev FTS (f : F) (aS : Option Addr) (pS : Nat) (t : T) (az : Option Addr) (ps : Nat) (al : Option Addr) (pl : Nat) (au : Option Addr) (pu : Nat) (b1 b2 : Nat) (w' : World) : Prop := w'.cell? ⟨b1, 0, none⟩ = some (.int .i64 f.kind) ∧ w'.cell? ⟨b1, 1, none⟩ = some (.int .i64 f.frm) ∧ w'.cell? ⟨b1, 2, none⟩ = some (.int .i64 f.to) ∧ w'.cell? ⟨b1, 3, none⟩ = some (.int .i64 f.nul) ∧ w'.cell? ⟨b1, 4, none⟩ = some (.int .i64 f.tag) ∧ w'.cell? ⟨b1, 5, none⟩ = some (.int .i64 f.dfl) ∧ w'.cell? ⟨b1, 6, none⟩ = some (.int .i64 f.ofk) ∧ w'.cell? ⟨b1, 7, none⟩ = some (.slice aS f.sub.length pS) ∧ w'.cell? ⟨b2, 0, none⟩ = some (.int .i64 t.n) ∧ w'.cell? ⟨b2, 1, none⟩ = some (.slice az t.s.length ps) ∧ w'.cell? ⟨b2, 2, none⟩ = some (.bool t.null) ∧ w'.cell? ⟨b2, 3, none⟩ = some (.slice al t.l.length pl) ∧ w'.cell? ⟨b2, 4, none⟩ = some (.slice au t.u.length pu)
theorem FTS.of {f : F} {aS : Option Addr} {pS : Nat} {t : T} {az : Option Addr} {ps : Nat} {al : Option Addr} {pl : Nat} {au : Option Addr} {pu b1 b2 : Nat} {w : World} {T1 T2 : TypeId} {z1 z2 : Nat × Nat}
    (h1 : w.heap[b1]? = some (.cells (fcells f aS pS) T1 z1)) (h2 : w.heap[b2]? = some (.cells (tcells t az ps al pl au pu) T2 z2)) : FTS f aS pS t az ps al pl au pu b1 b2 w := by
  obtain ⟨q0, q1, q2, q3, q4, q5, q6, q7⟩ := fbox h1
  obtain ⟨r0, r1, r2, r3, r4⟩ := tbox h2
  exact ⟨q0, q1, q2, q3, q4, q5, q6, q7, r0, r1, r2, r3, r4⟩
theorem SameOn.via {G : Nat → Prop} {w w1 w2 : World} (h1 : SameOn G w w1) (h2 : SameOn G w w2) : SameOn G w1 w2 := fun k hk => (h2 k hk).trans (h1 k hk).symm
theorem oneBox {w w1 : World} {o1 : Obj} (h : Keep [] (w.alloc o1) w1) : w1.heap[w.heap.size]? = some o1 := by
  rw [h.block _ (by simp) (by simp)]
  exact heap_alloc_new w o1
theorem twoBoxes {w w1 : World} {o1 o2 : Obj} (h : Keep [] ((w.alloc o1).alloc o2) w1) : w1.heap[w.heap.size]? = some o1 ∧ w1.heap[w.heap.size + 1]? = some o2 := by
  constructor
  · rw [h.block _ (by simp; omega) (by simp), Below.heap_alloc _ _ _ (by simp)]
    exact heap_alloc_new w o1
  · rw [h.block _ (by simp) (by simp)]
    exact alloc_at2 _ _ _

theorem take_flat {α : Type} (L : List α) (g : α → Bs) (n : Nat) (hn : n < L.length) : (L.take (n + 1)).flatMap g = (L.take n).flatMap g ++ g L[n] := by
  rw [List.take_succ_eq_append_getElem hn, List.flatMap_append]; simp
theorem take_flat_le {α : Type} (L : List α) (g : α → Bs) (n : Nat) : ((L.take n).flatMap g).length ≤ (L.flatMap g).length := by
  have : L.flatMap g = (L.take n).flatMap g ++ (L.drop n).flatMap g := by rw [← List.flatMap_append, List.take_append_drop]
  rw [this, List.length_append]; omega

end Go.Proofs.YtodbdecpacdgiaaDoor
/-
  spec.field: the other cases, and all of it.
-/
namespace Go.Proofs.YtodbdecpacdgiaaDoor
open Go.ChangeShapes Go.WideShapes Go.ChangeAt Go.RowKit

end Go.Proofs.YtodbdecpacdgiaaDoor
/-
  spec.part: its first loop, and all of it where the version is not flexible.
-/
namespace Go.Proofs.YtodbdecpacdgiaaDoor
open Go.ChangeShapes Go.WideShapes Go.ChangeAt Go.RowKit

theorem filter_take {α : Type} (L : List α) (p : α → Bool) (g : α → Bs) (n : Nat) (hn : n < L.length) :
    ((L.take (n + 1)).filter p).flatMap g = ((L.take n).filter p).flatMap g ++ if p L[n] then g L[n] else [] := by
  rw [List.take_succ_eq_append_getElem hn, List.filter_append, List.flatMap_append]
  by_cases h : p L[n] <;> simp [h]
theorem filter_take_le {α : Type} (L : List α) (p : α → Bool) (g : α → Bs) (n : Nat) : (((L.take n).filter p).flatMap g).length ≤ ((L.filter p).flatMap g).length := by
  have : (L.filter p).flatMap g = ((L.take n).filter p).flatMap g ++ ((L.drop n).filter p).flatMap g := by rw [← List.flatMap_append, ← List.filter_append, List.take_append_drop]
  rw [this, List.length_append]; omega

/-- the fields without tags, the first n of them -/
def plainTo (fs : List F) (v : Int) (flex : Bool) (t : T) (n : Nat) : Bs :=
  (((fieldsP fs v flex).zipIdx.take n).filter fun x => decide (x.1.1.tag < 0) && x.1.1.has v).flatMap fun x => x.1.2 (atT t x.2)
theorem fieldsP_length (fs : List F) (v : Int) (flex : Bool) : (fieldsP fs v flex).length = fs.length := by rw [fieldsP_map]; simp
theorem plainTo_all (fs : List F) (v : Int) (flex : Bool) (t : T) : plainTo fs v flex t fs.length = ((fieldsP fs v flex).zipIdx.filter fun x => decide (x.1.1.tag < 0) && x.1.1.has v).flatMap fun x => x.1.2 (atT t x.2) := by
  unfold plainTo
  rw [List.take_of_length_le (by simp [fieldsP_length])]
theorem plainTo_succ (fs : List F) (v : Int) (flex : Bool) (t : T) (n : Nat) (hn : n < fs.length) :
    plainTo fs v flex t (n + 1) = plainTo fs v flex t n ++ if (decide (fs[n].tag < 0) && fs[n].has v) = true then fieldP fs[n] v flex (atT t n) else [] := by
  unfold plainTo
  rw [filter_take _ _ _ n (by simp [fieldsP_length]; exact hn)]
  simp [fieldsP_map]
theorem plainTo_le (fs : List F) (v : Int) (flex : Bool) (t : T) (n : Nat) : (plainTo fs v flex t n).length ≤ (partP fs v flex t).length := by
  have h := filter_take_le (fieldsP fs v flex).zipIdx (fun x => decide (x.1.1.tag < 0) && x.1.1.has v) (fun x => x.1.2 (atT t x.2)) n
  unfold partP partOf plainTo
  cases flex
  · simpa using h
  · simp only [Bool.not_true, Bool.false_eq_true, if_false, List.length_append]
    omega

end Go.Proofs.YtodbdecpacdgiaaDoor
/-
  spec.part at every message's fields where the version is not flexible; spec.Write, spec.Kept, spec.Same.
-/
namespace Go.Proofs.YtodbdecpacdgiaaDoor
open Go.ChangeShapes Go.WideShapes Go.ChangeAt Go.RowKit

/-- what a message lies as: its fields, its first flexible version -/
def HM (w : World) (G : Nat → Prop) (m : Msg) (c : List Value) : Prop := ∃ ao cap, c = [.slice ao m.fields.length cap, .int .i64 m.flex] ∧ HFs w G (.slice ao m.fields.length cap) m.fields
theorem HM.keepF {w w' : World} {F' G : Nat → Prop} {m : Msg} {c : List Value} (h : HM w F' m c) (hs : SameOn F' w w') (hg : ∀ k, F' k → G k) : HM w' G m c := by
  obtain ⟨ao, cap, e, h1⟩ := h
  exact ⟨ao, cap, e, h1.keepF hs hg⟩

abbrev mcells (m : Msg) (ao : Option Addr) (cap : Nat) : Array Value := #[.slice ao m.fields.length cap, .int .i64 m.flex]

theorem Keep.drewN {A : List Nat} {w w1 : World} (h : Keep A w w1) (n : Nat) : Keep A w (w1.drewN n) := ⟨h.os, h.tape, h.output, h.size, h.block⟩
theorem RB.nth {w : World} {G : Nat → Prop} {az : Option Addr} {n p : Nat} {l : Bs} (h : RB w G (.slice az n p) l) {i : Nat} (hi : i < l.length) :
    ∃ b o, az = some ⟨b, o, none⟩ ∧ w.cell? ⟨b, o + i, none⟩ = some (.int .u8 (l[i].toNat : Int)) := by
  obtain ⟨ao, cap, e, h1, h2, h3⟩ := h
  cases e
  cases az with
  | none => have := (h2 rfl).1; omega
  | some a =>
    obtain ⟨b, o, sp⟩ := a
    obtain ⟨g1, g2⟩ := h3 _ rfl
    replace g1 := g1 (by simp; omega)
    simp only at g1
    subst g1
    exact ⟨b, o, rfl, by rw [(g2 i (by simpa using hi)).2]; simp [bv]⟩
set_option maxHeartbeats 400000 in
set_option maxRecDepth 100000 in
theorem same_any {G G' : Nat → Prop} {va vb : Value} {a b : Bs} {w : World} (ha : RB w G va a) (hb : RB w G' vb b) (hla : a.length ≤ 36000000000000) (hlb : b.length ≤ 36000000000000) :
    Calls Tryd.prog 32 #[va, vb] w fun e w' => e = .returned (.bool (a == b)) ∧ Keep [] w w' := by
  obtain ⟨aa, ca, rfl⟩ := RS.shape ha
  obtain ⟨ab, cb, rfl⟩ := RS.shape hb
  by_cases hne : a.length = b.length
  · have hne' : ((a.length : Int) != (b.length : Int)) = false := by simp [hne]
    have HNE : Hid (a.length = b.length) := hne
    have hle1 : a.length ≤ b.length := by omega
    have hle2 : b.length ≤ a.length := by omega
    clear hne
    go_enter Tryd.func32, Tryd.ntmps32
    go_wp2
    go_loopw [13] (fun k wr => ∃ n : Nat, n ≤ a.length ∧ k = .int .i64 n ∧ Hid (a.take n = b.take n) ∧ ∃ q, wr = w.drewN q) (fun k _ => a.length - (intOf k).toNat)
    case atStart => exact ⟨0, Nat.zero_le _, rfl, by simp [Hid], 0, rfl⟩
    case round =>
      obtain ⟨n, hn, rfl, hpre, q, rfl⟩ := hrel
      by_cases hlt : n < a.length
      · have hltb : n < b.length := by omega
        obtain ⟨ba, oa, rfl, hca⟩ := ha.nth hlt
        obtain ⟨bb, ob, rfl, hcb⟩ := hb.nth hltb
        by_cases hx : a[n] = b[n]
        · have hd : ((a[n].toNat : Int) != (b[n].toNat : Int)) = false := by simp [hx]
          have HX : Hid (a[n] = b[n]) := hx
          clear hx
          go_wp2
          go_quiet (fail)
          go_wp2
          refine ⟨⟨n + 1, by omega, by go_num, ?_, _, rfl⟩, by simp [intOf]; omega⟩
          show _ = _
          rw [List.take_succ_eq_append_getElem hlt, List.take_succ_eq_append_getElem hltb, hpre.out, HX.out]
        · have hd : ((a[n].toNat : Int) != (b[n].toNat : Int)) = true := by
            rw [bne_iff_ne]
            intro h
            exact hx (UInt8.toNat_inj.1 (by omega))
          have HX : Hid (¬ a[n] = b[n]) := hx
          clear hx
          go_wp2
          go_quiet (fail)
          go_wp2
          go_ret
          refine ⟨?_, ((Keep.refl _ _).drewN _).drewN _⟩
          have hf : (a == b) = false := by
            rw [beq_eq_false_iff_ne]
            intro h
            subst h
            exact HX.out rfl
          rw [hf]
          rfl
      · go_wp2
        go_ret
        refine ⟨?_, (Keep.refl _ _).drewN _⟩
        have hp := hpre.out
        rw [List.take_of_length_le (by omega), List.take_of_length_le (by omega)] at hp
        rw [hp]
        simp
  · have hne' : ((a.length : Int) != (b.length : Int)) = true := by simp; omega
    have hf : (a == b) = false := by
      rw [beq_eq_false_iff_ne]
      intro h
      exact hne (by rw [h])
    rw [hf]
    clear hne hf
    go_enter Tryd.func32, Tryd.ntmps32
    go_wp2
    go_ret
    exact ⟨rfl, Keep.refl _ _⟩

abbrev MTS (m : Msg) (ao : Option Addr) (cap : Nat) (t : T) (az : Option Addr) (ps : Nat) (al : Option Addr) (pl : Nat) (au : Option Addr) (pu : Nat) (b1 b2 : Nat) (w' : World) : Prop := w'.cell? ⟨b1, 0, none⟩ = some (.slice ao m.fields.length cap) ∧ w'.cell? ⟨b1, 1, none⟩ = some (.int .i64 m.flex) ∧ w'.cell? ⟨b2, 0, none⟩ = some (.int .i64 t.n) ∧ w'.cell? ⟨b2, 1, none⟩ = some (.slice az t.s.length ps) ∧ w'.cell? ⟨b2, 2, none⟩ = some (.bool t.null) ∧ w'.cell? ⟨b2, 3, none⟩ = some (.slice al t.l.length pl) ∧ w'.cell? ⟨b2, 4, none⟩ = some (.slice au t.u.length pu)
theorem MTS.of {m : Msg} {ao : Option Addr} {cap : Nat} {t : T} {az : Option Addr} {ps : Nat} {al : Option Addr} {pl : Nat} {au : Option Addr} {pu b1 b2 : Nat} {w : World} {T1 T2 : TypeId} {z1 z2 : Nat × Nat}
    (h1 : w.heap[b1]? = some (.cells (mcells m ao cap) T1 z1)) (h2 : w.heap[b2]? = some (.cells (tcells t az ps al pl au pu) T2 z2)) : MTS m ao cap t az ps al pl au pu b1 b2 w := by
  obtain ⟨r0, r1, r2, r3, r4⟩ := tbox h2
  exact ⟨cellOf h1 0 _ rfl, cellOf h1 1 _ rfl, r0, r1, r2, r3, r4⟩
end Go.Proofs.YtodbdecpacdgiaaDoor
/-
  spec.SameTree at two trees that say the same.
-/
namespace Go.Proofs.YtodbdecpacdgiaaDoor
open Go.ChangeShapes Go.WideShapes Go.ChangeAt Go.RowKit

theorem Keep.cs {w w' : World} (h : Keep [] w w') {p : Addr} {v : Value} (hc : w.cell? p = some v) : w'.cell? p = some v :=
  (h.cell (World.block_lt_of_cell? w p hc) (by simp)).trans hc
def SameSaid (a : T) : Prop :=
  ∀ (G G' : Nat → Prop) (ca cb : List Value) (w : World), HT w G a ca → HT w G' a cb → There G w → There G' w →
    Calls Tryd.prog 12 #[.agg ca.toArray, .agg cb.toArray] w fun e w' => e = .returned (.bool true) ∧ Keep [] w w'

theorem HTs.cells {w : World} {G : Nat → Prop} {az : Option Addr} {n p : Nat} {l : List T} (h : HTs w G (.slice az n p) l) {i : Nat} (hi : i < l.length) :
    ∃ b o c, az = some ⟨b, o, none⟩ ∧ G b ∧ HT w G l[i] c ∧ ∀ j (hj : j < c.length), w.cell? ⟨b, o + i * 5 + j, none⟩ = some c[j] := by
  obtain ⟨b, o, cap, c, e, h1, h2, h3, h4⟩ := h.elem hi
  cases e
  exact ⟨b, o, c, rfl, h2, h3, h4⟩
/-- tags, one by one -/
theorem HGs.elem {w : World} {G : Nat → Prop} {az : Option Addr} {n p : Nat} {u : List Tg} (h : HGs w G (.slice az n p) u) {i : Nat} (hi : i < u.length) :
    ∃ b o av pv, az = some ⟨b, o, none⟩ ∧ G b ∧ w.cell? ⟨b, o + i * 2, none⟩ = some (.int .u32 (u[i].1 : Int)) ∧ w.cell? ⟨b, o + i * 2 + 1, none⟩ = some (.slice av u[i].2.length pv) ∧ RB w G (.slice av u[i].2.length pv) u[i].2 ∧ u[i].2.length ≤ 1099511627776 := by
  obtain ⟨vs, h1, h2, h3, h5, h4⟩ := h
  have hm : ∀ c ∈ ((u.zip vs).map fun x => [Value.int .u32 (x.1.1 : Int), x.2]), c.length = 2 := fun c hc => by
    obtain ⟨x, _, rfl⟩ := List.mem_map.1 hc
    rfl
  have hl : ((u.zip vs).map fun x => [Value.int .u32 (x.1.1 : Int), x.2]).length = u.length := by simp [h1]
  rw [← hl] at h4
  obtain ⟨b, o, cap, e, hc, hG, hcell⟩ := h4.elem hm (i := i) (by omega) (by omega)
  cases e
  have hv := h2 i hi (by omega)
  obtain ⟨av, pv, ev⟩ := RS.shape hv
  have c0 := hcell 0 (by simp)
  have c1 := hcell 1 (by simp)
  simp at c0 c1
  refine ⟨b, o, av, pv, rfl, hG, c0, ?_, ?_, (h3 _ (List.getElem_mem hi)).2⟩
  · rw [c1, ← ev]
  · rw [← ev]; exact hv

set_option maxHeartbeats 1000000 in
set_option maxRecDepth 100000 in
theorem same_step {a : T} (hx : ∀ x ∈ a.l, SameSaid x) : SameSaid a := by
  intro G G' ca cb w ha hb hG hG'
  obtain ⟨az1, ps1, al1, pl1, au1, pu1, rfl, hs1, hl1, hu1, hn1, hn2, hn3, hn4⟩ := ha.cells
  obtain ⟨az2, ps2, al2, pl2, au2, pu2, rfl, hs2, hl2, hu2, _⟩ := hb.cells
  have hub := hu1.bd
  have hle1 : a.n ≤ 9223372036854775807 := by omega
  have K1 : Keep [] w ((w.alloc (.cells (tcells a az1 ps1 al1 pl1 au1 pu1) 35)).alloc (.cells (tcells a az2 ps2 al2 pl2 au2 pu2) 35)) := (keep_box _).alloc _
  have SS := fun W (hW : Keep [] w W) => same_any (hs1.keepF (hG.same hW) (fun _ h => h)) (hs2.keepF (hG'.same hW) (fun _ h => h)) (by omega) (by omega)
  simp only [beq_self_eq_true] at SS
  have hG1 := hG.keep K1
  have hG1' := hG'.keep K1
  clear ha hb hs1 hs2
  go_enter Tryd.func12, Tryd.ntmps12
  go_wp2_with (go_at_call 32; refine (SS _ K1).mono ?_; rintro e w1 ⟨rfl, hk1⟩; obtain ⟨q0, q1, q2, q3, q4⟩ := tbox (twoBoxes hk1).1; obtain ⟨r0, r1, r2, r3, r4⟩ := tbox (twoBoxes hk1).2)
  clear q0 q1 q2 q3 q4 r0 r1 r2 r3 r4 SS
  go_loopw [48] (fun k wr => ∃ n : Nat, n ≤ a.l.length ∧ k = .int .i64 n ∧ Keep [] ((w.alloc (.cells (tcells a az1 ps1 al1 pl1 au1 pu1) 35)).alloc (.cells (tcells a az2 ps2 al2 pl2 au2 pu2) 35)) wr) (fun k _ => a.l.length - (intOf k).toNat)
  case atStart => exact ⟨0, Nat.zero_le _, rfl, hk1⟩
  case round =>
    obtain ⟨n, hn, rfl, hkeep⟩ := hrel
    have hk := K1.trans hkeep
    obtain ⟨q0, q1, q2, q3, q4⟩ := tbox (twoBoxes hkeep).1
    obtain ⟨r0, r1, r2, r3, r4⟩ := tbox (twoBoxes hkeep).2
    by_cases hlt : n < a.l.length
    · clear q0 q1 q2 q4 r0 r1 r2 r4
      obtain ⟨bx, ox, cx, rfl, hGx, hcx, hcellx⟩ := (hl1.keepF (hG.same hk) (fun _ h => h)).cells hlt
      obtain ⟨by_, oy, cy, rfl, hGy, hcy, hcelly⟩ := (hl2.keepF (hG'.same hk) (fun _ h => h)).cells hlt
      have RS1 := fun W (hW : Keep [] wr W) => hx _ (List.getElem_mem hlt) G G' _ _ W (hcx.keepF ((hG.keep hk).same hW) (fun _ h => h)) (hcy.keepF ((hG'.keep hk).same hW) (fun _ h => h)) ((hG.keep hk).keep hW) ((hG'.keep hk).keep hW)
      obtain ⟨az3, ps3, al3, pl3, au3, pu3, rfl, _⟩ := hcx.cells
      obtain ⟨az4, ps4, al4, pl4, au4, pu4, rfl, _⟩ := hcy.cells
      have c0 : wr.cell? ⟨bx, ox + n * 5, none⟩ = some _ := hcellx 0 (by simp)
      have c1 : wr.cell? ⟨bx, ox + n * 5 + 1, none⟩ = some _ := hcellx 1 (by simp)
      have c2 : wr.cell? ⟨bx, ox + n * 5 + 2, none⟩ = some _ := hcellx 2 (by simp)
      have c3 : wr.cell? ⟨bx, ox + n * 5 + 3, none⟩ = some _ := hcellx 3 (by simp)
      have c4 : wr.cell? ⟨bx, ox + n * 5 + 4, none⟩ = some _ := hcellx 4 (by simp)
      have d0 : wr.cell? ⟨by_, oy + n * 5, none⟩ = some _ := hcelly 0 (by simp)
      have d1 : wr.cell? ⟨by_, oy + n * 5 + 1, none⟩ = some _ := hcelly 1 (by simp)
      have d2 : wr.cell? ⟨by_, oy + n * 5 + 2, none⟩ = some _ := hcelly 2 (by simp)
      have d3 : wr.cell? ⟨by_, oy + n * 5 + 3, none⟩ = some _ := hcelly 3 (by simp)
      have d4 : wr.cell? ⟨by_, oy + n * 5 + 4, none⟩ = some _ := hcelly 4 (by simp)
      simp only [List.getElem_cons_zero, List.getElem_cons_succ] at c0 c1 c2 c3 c4 d0 d1 d2 d3 d4
      clear hcellx hcelly hcx hcy
      generalize a.l[n] = x at *
      have hS := And.intro (q3) (And.intro (r3) (And.intro (c0) (And.intro (c1) (And.intro (c2) (And.intro (c3) (And.intro (c4) (And.intro (d0) (And.intro (d1) (And.intro (d2) (And.intro (d3) (d4)))))))))))
      go_wp2_with fail
      go_region_held3 (fun w' => w'.cell? ⟨w.heap.size, 3, none⟩ = some (.slice (some ⟨bx, ox, none⟩) a.l.length pl1) ∧ w'.cell? ⟨w.heap.size + 1, 3, none⟩ = some (.slice (some ⟨by_, oy, none⟩) a.l.length pl2) ∧ w'.cell? ⟨bx, ox + n * 5, none⟩ = some (.int .i64 x.n) ∧ w'.cell? ⟨bx, ox + n * 5 + 1, none⟩ = some (.slice az3 x.s.length ps3) ∧ w'.cell? ⟨bx, ox + n * 5 + 2, none⟩ = some (.bool x.null) ∧ w'.cell? ⟨bx, ox + n * 5 + 3, none⟩ = some (.slice al3 x.l.length pl3) ∧ w'.cell? ⟨bx, ox + n * 5 + 4, none⟩ = some (.slice au3 x.u.length pu3) ∧ w'.cell? ⟨by_, oy + n * 5, none⟩ = some (.int .i64 x.n) ∧ w'.cell? ⟨by_, oy + n * 5 + 1, none⟩ = some (.slice az4 x.s.length ps4) ∧ w'.cell? ⟨by_, oy + n * 5 + 2, none⟩ = some (.bool x.null) ∧ w'.cell? ⟨by_, oy + n * 5 + 3, none⟩ = some (.slice al4 x.l.length pl4) ∧ w'.cell? ⟨by_, oy + n * 5 + 4, none⟩ = some (.slice au4 x.u.length pu4)) (exact hS) (first
        | (go_at_call 12; refine (RS1 _ (Keep.refl _ _).drew).mono ?_; rintro e w2 ⟨rfl, hk2⟩; have kx : Keep [] wr w2 := (Keep.refl _ _).drew.trans hk2; have hS := And.intro (kx.cs q3) (And.intro (kx.cs r3) (And.intro (kx.cs c0) (And.intro (kx.cs c1) (And.intro (kx.cs c2) (And.intro (kx.cs c3) (And.intro (kx.cs c4) (And.intro (kx.cs d0) (And.intro (kx.cs d1) (And.intro (kx.cs d2) (And.intro (kx.cs d3) (kx.cs d4)))))))))))))
      go_wp2
      go_roundw
      case rel => exact ⟨n + 1, by omega, by go_num, hkeep.trans kx⟩
      case measure => simp [intOf]; omega
    · go_wp2_with fail
      clear q0 q1 q2 q3 q4 r0 r1 r2 r3 r4 hlt
      go_loopw [67] (fun k wr => ∃ n : Nat, n ≤ a.u.length ∧ k = .int .i64 n ∧ Keep [] ((w.alloc (.cells (tcells a az1 ps1 al1 pl1 au1 pu1) 35)).alloc (.cells (tcells a az2 ps2 al2 pl2 au2 pu2) 35)) wr) (fun k _ => a.u.length - (intOf k).toNat)
      case atStart => exact ⟨0, Nat.zero_le _, rfl, hkeep⟩
      case round =>
        clear hkeep hk
        obtain ⟨n, hn, rfl, hkeep⟩ := hrel
        have hk := K1.trans hkeep
        obtain ⟨q0, q1, q2, q3, q4⟩ := tbox (twoBoxes hkeep).1
        obtain ⟨r0, r1, r2, r3, r4⟩ := tbox (twoBoxes hkeep).2
        clear q0 q1 q2 q3 r0 r1 r2 r3
        by_cases hlt : n < a.u.length
        · obtain ⟨bx, ox, av, pv, rfl, hGx, c0, c1, hb1, hbl⟩ := (hu1.keepF (hG.same hk) (fun _ h => h)).elem hlt
          obtain ⟨by_, oy, av', pv', rfl, hGy, d0, d1, hb2, _⟩ := (hu2.keepF (hG'.same hk) (fun _ h => h)).elem hlt
          have RS1 := fun W (hW : Keep [] wr W) => same_any (hb1.keepF ((hG.keep hk).same hW) (fun _ h => h)) (hb2.keepF ((hG'.keep hk).same hW) (fun _ h => h)) (by omega) (by omega)
          simp only [beq_self_eq_true] at RS1
          clear hb1 hb2
          generalize a.u[n] = x at *
          have hS := And.intro (q4) (And.intro (r4) (And.intro (c0) (And.intro (c1) (And.intro (d0) (d1)))))
          go_wp2_with fail
          go_region_held3 (fun w' => w'.cell? ⟨w.heap.size, 4, none⟩ = some (.slice (some ⟨bx, ox, none⟩) a.u.length pu1) ∧ w'.cell? ⟨w.heap.size + 1, 4, none⟩ = some (.slice (some ⟨by_, oy, none⟩) a.u.length pu2) ∧ w'.cell? ⟨bx, ox + n * 2, none⟩ = some (.int .u32 (x.1 : Int)) ∧ w'.cell? ⟨bx, ox + n * 2 + 1, none⟩ = some (.slice av x.2.length pv) ∧ w'.cell? ⟨by_, oy + n * 2, none⟩ = some (.int .u32 (x.1 : Int)) ∧ w'.cell? ⟨by_, oy + n * 2 + 1, none⟩ = some (.slice av' x.2.length pv')) (exact hS) (first
            | (go_at_call 32; refine (RS1 _ (Keep.refl _ _).drew).mono ?_; rintro e w2 ⟨rfl, hk2⟩; have kx : Keep [] wr w2 := (Keep.refl _ _).drew.trans hk2; have hS := And.intro (kx.cs q4) (And.intro (kx.cs r4) (And.intro (kx.cs c0) (And.intro (kx.cs c1) (And.intro (kx.cs d0) (kx.cs d1)))))))
          go_wp2
          go_roundw
          case rel => exact ⟨n + 1, by omega, by go_num, hkeep.trans kx⟩
          case measure => simp [intOf]; omega
        · go_wp2
          go_ret
          exact ⟨rfl, hk⟩

mutual
theorem sameSaid : ∀ a, SameSaid a
  | .mk n s b l u => same_step (a := .mk n s b l u) (sameSaids l)
theorem sameSaids : ∀ (l : List T), ∀ x ∈ l, SameSaid x
  | [], _, h => absurd h (by simp)
  | y :: r, x, h => by
    rcases List.mem_cons.1 h with e | h'
    · rw [e]; exact sameSaid y
    · exact sameSaids r x h'
end
end Go.Proofs.YtodbdecpacdgiaaDoor
/-
  LISTS OF TREES AND OF TAGS THAT THE CALL ITSELF HOLDS: what append does to them.
-/
namespace Go.Proofs.YtodbdecpacdgiaaDoor
open Go.RowKit

theorem sameOn_of {A : List Nat} {G : Nat → Prop} {w w' : World} (h : Keep A w w') (hG : There G w) (hA : ∀ k, G k → k ∉ A) : SameOn G w w' := fun k hk => h.block k (hG k hk) (hA k hk)

/-- the blocks G, but for the one that v begins in -/
def Off (G : Nat → Prop) (v : Value) (k : Nat) : Prop := G k ∧ some k ≠ v.ownBlock

/-- a list of trees of the call's own -/
def OT (w : World) (B E : Nat) (G : Nat → Prop) (v : Value) (l : List T) : Prop :=
  ∃ cs : List (List Value), cs.length = l.length ∧ (∀ i (h1 : i < l.length) (h2 : i < cs.length), HT w (Off G v) l[i] cs[i]) ∧ l.length ≤ 1099511627776 ∧ w.ownsRow B E 5 v l.length cs.flatten
theorem OT.nil (w : World) (B E : Nat) (G : Nat → Prop) : OT w B E G (.slice none 0 0) [] := ⟨[], rfl, (fun i h => by simp at h), by simp, World.ownsRow_nil _ _ _ _⟩
theorem OT.row {w : World} {B E : Nat} {G : Nat → Prop} {v : Value} {l : List T} (h : OT w B E G v l) : ∃ xs, w.ownsRow B E 5 v l.length xs := let ⟨cs, _, _, _, h4⟩ := h; ⟨cs.flatten, h4⟩
/-- other blocks turn, the list stays -/
theorem OT.keepF {w w' : World} {B E : Nat} {G G' : Nat → Prop} {v : Value} {l : List T} (h : OT w B E G v l) (hs : SameOn G w w') (hg : ∀ k, G k → G' k) (ho : ∀ k, v.ownBlock = some k → w'.heap[k]? = w.heap[k]?) : OT w' B E G' v l := by
  obtain ⟨cs, h1, h2, h3, h4, h5⟩ := h
  refine ⟨cs, h1, fun i a b => (h2 i a b).keepF (fun k hk => hs k hk.1) (fun k hk => ⟨hg k hk.1, hk.2⟩), h3, h4, ?_⟩
  rcases h5 with h5 | ⟨g, cap, cur, e, hb, hg', r⟩
  · exact .inl h5
  · exact .inr ⟨g, cap, cur, e, hb, by rw [ho g (by rw [e]; rfl)]; exact hg', r⟩
/-- a row of the call's own as a slice that reads -/
theorem ownsRow_rs {w : World} {B E size : Nat} {v : Value} {n : Nat} {xs : List Value} (h : w.ownsRow B E size v n xs) : RS w (fun k => B ≤ k ∧ k < w.heap.size) v n xs := by
  obtain ⟨h1, ⟨rfl, h2⟩ | ⟨g, cap, cur, rfl, hb, hg, hn, hm, hz, ht⟩⟩ := h
  · subst h2
    have hx : xs = [] := List.eq_nil_of_length_eq_zero (by simpa using h1)
    exact ⟨none, 0, rfl, by omega, fun _ => ⟨rfl, rfl, hx⟩, (fun a ha => by cases ha)⟩
  · have hlt : g < w.heap.size := (Array.getElem?_eq_some_iff.1 hg).1
    refine ⟨_, cap, rfl, hn, (fun h => by cases h), fun a ha => ?_⟩
    cases ha
    refine ⟨fun _ => rfl, fun i hi => ⟨⟨hb, hlt⟩, ?_⟩⟩
    have e : xs[i]? = some xs[i] := List.getElem?_eq_getElem hi
    rw [← e, ← ht, List.getElem?_take, if_pos (by omega)]
    simp [World.cell?, hg]
theorem OT.hts {w : World} {B E : Nat} {G G' : Nat → Prop} {v : Value} {l : List T} (h : OT w B E G v l) (hg : ∀ k, G k → G' k) (hB : ∀ k, B ≤ k → k < w.heap.size → G' k) : HTs w G' v l := by
  obtain ⟨cs, h1, h2, h3, h4⟩ := h
  refine ⟨cs, h1, fun i a b => (h2 i a b).keepF (fun _ _ => rfl) (fun k hk => hg k hk.1), Nat.le_trans h3 (by decide), ?_⟩
  rw [h1]
  exact (ownsRow_rs h4).mono fun k hk => hB k hk.1 hk.2
/-- one tree more -/
theorem OT.push {w w' : World} {B E : Nat} {G : Nat → Prop} {v : Value} {l : List T} {x : T} {c : List Value} {g cap : Nat} {cs : List (List Value)} (h1 : cs.length = l.length) (h2 : ∀ i (a : i < l.length) (b : i < cs.length), HT w (Off G v) l[i] cs[i])
    (hx : HT w (Off G v) x c) (hGw : There G w) (hl : l.length + 1 ≤ 1099511627776)
    (hrow : w'.ownsRow B E 5 (.slice (some ⟨g, 0, none⟩) (l.length + 1) cap) (l.length + 1) (cs.flatten ++ c)) (hgr : w.grownBy w' v.ownBlock) (hat : v.ownBlock = some g ∨ w.heap.size ≤ g) :
    OT w' B E G (.slice (some ⟨g, 0, none⟩) (l.length + 1) cap) (l ++ [x]) := by
  have hs : SameOn (Off G v) w w' := fun k hk => hgr.block k (hGw k hk.1) hk.2
  have hw : ∀ k, Off G v k → Off G (.slice (some ⟨g, 0, none⟩) (l.length + 1) cap) k := fun k hk => ⟨hk.1, fun e => by
    have e' : k = g := by simpa [Value.ownBlock] using e
    subst e'
    rcases hat with h | h
    · exact hk.2 h.symm
    · have := hGw k hk.1; omega⟩
  refine ⟨cs ++ [c], by simp [h1], fun i a b => ?_, by simpa using hl, ?_⟩
  · rcases Nat.lt_or_ge i l.length with hi | hi
    · rw [List.getElem_append_left hi, List.getElem_append_left (by omega)]
      exact (h2 i hi (by omega)).keepF hs hw
    · have hi' : i = l.length := by simp at a; omega
      subst hi'
      rw [List.getElem_append_right (by omega), List.getElem_append_right (by omega)]
      simp only [h1, Nat.sub_self, List.getElem_singleton]
      exact hx.keepF hs hw
  · simpa using hrow

/-- a list of tags of the call's own -/
def OG (w : World) (B E : Nat) (G : Nat → Prop) (v : Value) (l : List Tg) : Prop :=
  ∃ vs : List Value, vs.length = l.length ∧ (∀ i (h1 : i < l.length) (h2 : i < vs.length), RB w (Off G v) vs[i] l[i].2) ∧ (∀ x ∈ l, x.1 < 4294967296 ∧ x.2.length ≤ 1099511627776) ∧ l.length ≤ 1099511627776 ∧
    w.ownsRow B E 2 v l.length ((l.zip vs).map fun x => [Value.int .u32 (x.1.1 : Int), x.2]).flatten
theorem OG.nil (w : World) (B E : Nat) (G : Nat → Prop) : OG w B E G (.slice none 0 0) [] := ⟨[], rfl, (fun i h => by simp at h), (fun x h => by cases h), by simp, World.ownsRow_nil _ _ _ _⟩
theorem OG.keepF {w w' : World} {B E : Nat} {G G' : Nat → Prop} {v : Value} {l : List Tg} (h : OG w B E G v l) (hs : SameOn G w w') (hg : ∀ k, G k → G' k) (ho : ∀ k, v.ownBlock = some k → w'.heap[k]? = w.heap[k]?) : OG w' B E G' v l := by
  obtain ⟨cs, h1, h2, h3, h6, h4, h5⟩ := h
  refine ⟨cs, h1, fun i a b => (h2 i a b).keepF (fun k hk => hs k hk.1) (fun k hk => ⟨hg k hk.1, hk.2⟩), h3, h6, h4, ?_⟩
  rcases h5 with h5 | ⟨g, cap, cur, e, hb, hg', r⟩
  · exact .inl h5
  · exact .inr ⟨g, cap, cur, e, hb, by rw [ho g (by rw [e]; rfl)]; exact hg', r⟩
theorem OG.hgs {w : World} {B E : Nat} {G G' : Nat → Prop} {v : Value} {l : List Tg} (h : OG w B E G v l) (hg : ∀ k, G k → G' k) (hB : ∀ k, B ≤ k → k < w.heap.size → G' k) : HGs w G' v l := by
  obtain ⟨cs, h1, h2, h3, h6, h4⟩ := h
  exact ⟨cs, h1, fun i a b => (h2 i a b).keepF (fun _ _ => rfl) (fun k hk => hg k hk.1), h3, Nat.le_trans h6 (by decide), (ownsRow_rs h4).mono fun k hk => hB k hk.1 hk.2⟩
theorem OG.push {w w' : World} {B E : Nat} {G : Nat → Prop} {v : Value} {l : List Tg} {x : Tg} {vx : Value} {g cap : Nat} {cs : List Value} (h1 : cs.length = l.length) (h2 : ∀ i (a : i < l.length) (b : i < cs.length), RB w (Off G v) cs[i] l[i].2)
    (h3 : ∀ x ∈ l, x.1 < 4294967296 ∧ x.2.length ≤ 1099511627776) (hx : RB w (Off G v) vx x.2) (hx1 : x.1 < 4294967296 ∧ x.2.length ≤ 1099511627776) (hGw : There G w) (hl : l.length + 1 ≤ 1099511627776)
    (hrow : w'.ownsRow B E 2 (.slice (some ⟨g, 0, none⟩) (l.length + 1) cap) (l.length + 1) (((l.zip cs).map fun x => [Value.int .u32 (x.1.1 : Int), x.2]).flatten ++ [.int .u32 (x.1 : Int), vx])) (hgr : w.grownBy w' v.ownBlock) (hat : v.ownBlock = some g ∨ w.heap.size ≤ g) :
    OG w' B E G (.slice (some ⟨g, 0, none⟩) (l.length + 1) cap) (l ++ [x]) := by
  have hs : SameOn (Off G v) w w' := fun k hk => hgr.block k (hGw k hk.1) hk.2
  have hw : ∀ k, Off G v k → Off G (.slice (some ⟨g, 0, none⟩) (l.length + 1) cap) k := fun k hk => ⟨hk.1, fun e => by
    have e' : k = g := by simpa [Value.ownBlock] using e
    subst e'
    rcases hat with h | h
    · exact hk.2 h.symm
    · have := hGw k hk.1; omega⟩
  refine ⟨cs ++ [vx], by simp [h1], fun i a b => ?_, fun y hy => ?_, by simpa using hl, ?_⟩
  · rcases Nat.lt_or_ge i l.length with hi | hi
    · rw [List.getElem_append_left (by omega)]
      have e : (l ++ [x])[i] = l[i] := List.getElem_append_left hi
      rw [e]
      exact (h2 i hi (by omega)).keepF hs hw
    · have hi' : i = l.length := by simp at a; omega
      subst hi'
      rw [List.getElem_append_right (by omega)]
      have e : (l ++ [x])[l.length] = x := by simp
      rw [e]
      simp only [h1, Nat.sub_self, List.getElem_singleton]
      exact hx.keepF hs hw
  · rcases List.mem_append.1 hy with hy | hy
    · exact h3 y hy
    · have := List.mem_singleton.1 hy
      subst this
      exact hx1
  · rw [List.length_append, List.zip_append (by omega)]
    simpa using hrow

/-- a call of a Go function, as a step of a region that draws its order -/
theorem step_call {P : Program} {w : World} {ops : Array Oper} {o : Oper} {a : Act} {Q : Exit → Act → World → Prop} {K : Act → World → Prop} {E : Prop} {R : Ending → World → Prop} (hgd : o.guard = none) (k : Nat) (ps : Array Operand) (ts : Array TypeId)
    (ho : o.op = .call { callee := .value (.func k), args := ps, argTypes := ts }) (args : Array Value) (hargs : ps.map a.eval = args) (fn : Func) (hf : P.funcs[k]? = some fn) (hb : fn.body.isNone = false) (hn : (fn.name == "runtime.NumGoroutine") = false)
    (hcall : Calls P k args w R) (h : ∀ e w', R e w' → ∃ v, e = .returned v ∧ K (a.put o.dst v) w') : if Region.wanted o (yielded ops a.tmps) = true then Oper.wp P o a w K Q else E := by
  have hw : Region.wanted o (yielded ops a.tmps) = true := by simp [Region.wanted, hgd]
  rw [if_pos hw]
  have hrun : (execOp a.eval o).run P w = .ok (.enter k args) w := by
    have e1 : a.eval (.func k) = .func (.func k) #[] #[] := rfl
    have hn' : ¬ fn.name = "runtime.NumGoroutine" := by simpa using hn
    have hb' : ¬ fn.body = none := by intro h; rw [h] at hb; cases hb
    simp [execOp, ho, resolve, Deferred.ofValue, invoke, callFunc, e1, hargs, program, Sem.run, hf, hb', hn', bind, pure, Sem.bind]
  unfold Oper.wp
  rw [hrun]
  simp only [Oper.upon]
  exact Calls.mono hcall fun e w' hR => by
    obtain ⟨v, rfl, hK⟩ := h e w' hR
    exact hK
/-- a store into one of a block's cells -/
theorem heap_set {w : World} {b i : Nat} {c : Array Value} {t : TypeId} {z : Nat × Nat} (h : w.heap[b]? = some (.cells c t z)) (u : Value) : (w.setCell ⟨b, i, none⟩ u).heap[b]? = some (.cells (c.setIfInBounds i u) t z) := by
  simp [World.setCell, Array.getElem?_modify, h]
theorem freeOf {w : World} {b : Nat} {c : Array Value} {t : TypeId} (h : w.heap[b]? = some (.cells c t (0, 0))) (i : Nat) : w.frozen? ⟨b, i, none⟩ = false := by
  simp [World.frozen?, h]
end Go.Proofs.YtodbdecpacdgiaaDoor
/-
  Inserting by rising numbers, in plain Lean; a row of tags of the call's own.
-/
namespace Go.Proofs.YtodbdecpacdgiaaDoor
open Go.RowKit

section
variable {α β : Type}
def spotG (out : List (Nat × α)) (k : Nat) : Nat := (out.takeWhile fun x => x.1 < k).length
def insG (out : List (Nat × α)) (t : Nat × α) : List (Nat × α) := if out[spotG out t.1]?.any (·.1 == t.1) then out else out.take (spotG out t.1) ++ t :: out.drop (spotG out t.1)
theorem spotG_map (f : Nat × α → Tg) (hf : ∀ x, (f x).1 = x.1) (out : List (Nat × α)) (k : Nat) : spot (out.map f) k = spotG out k := by
  unfold spot spotG
  rw [List.takeWhile_map, List.length_map]
  congr 1
  congr 1
  funext x
  simp [hf]
theorem insG_map (f : Nat × α → Tg) (hf : ∀ x, (f x).1 = x.1) (out : List (Nat × α)) (t : Nat × α) : (insG out t).map f = ins (out.map f) (f t) := by
  unfold insG ins
  rw [hf, spotG_map f hf]
  have e : ((out.map f)[spotG out t.1]?.any fun x => x.1 == t.1) = (out[spotG out t.1]?.any fun x => x.1 == t.1) := by
    rw [List.getElem?_map]
    cases out[spotG out t.1]? with
    | none => rfl
    | some x => simp [hf]
  rw [e]
  split
  · rfl
  · simp
theorem spotG_le (out : List (Nat × α)) (k : Nat) : spotG out k ≤ out.length := (List.takeWhile_prefix _).length_le
theorem spotG_lt : ∀ (out : List (Nat × α)) (k j : Nat) (_ : j < spotG out k) (h : j < out.length), out[j].1 < k
  | [], _, _, _, h => by simp at h
  | x :: r, k, j, hj, h => by
    unfold spotG at hj
    rw [List.takeWhile_cons] at hj
    split at hj
    · rename_i hx
      cases j with
      | zero => simpa using hx
      | succ j => exact spotG_lt r k j (by simpa [spotG] using hj) (by simpa using h)
    · simp at hj
theorem spotG_ge : ∀ (out : List (Nat × α)) (k : Nat) (h : spotG out k < out.length), ¬ out[spotG out k].1 < k
  | [], _, h => by simp at h
  | x :: r, k, h => by
    by_cases hx : x.1 < k
    · have e : spotG (x :: r) k = spotG r k + 1 := by simp [spotG, hx]
      have h2 := spotG_ge r k (by simp [e] at h; exact h)
      simp only [e, List.getElem_cons_succ]
      exact h2
    · have e : spotG (x :: r) k = 0 := by simp [spotG, hx]
      simp only [e, List.getElem_cons_zero]
      exact hx
end
/-- the cells of tags -/
def cellsL (L : List (Nat × (Value × Bs))) : List Value := L.flatMap fun x => [.int .u32 (x.1 : Int), x.2.1]
theorem cellsL_len (L : List (Nat × (Value × Bs))) : (cellsL L).length = L.length * 2 := by
  induction L with
  | nil => rfl
  | cons x r ih => simp [cellsL] at ih ⊢; omega
theorem cellsL_app (A B : List (Nat × (Value × Bs))) : cellsL (A ++ B) = cellsL A ++ cellsL B := by simp [cellsL]
theorem cellsL_mid (A B : List (Nat × (Value × Bs))) (y : Nat × (Value × Bs)) (j : Nat) (hj : j = A.length) : (cellsL (A ++ y :: B))[j * 2]? = some (.int .u32 (y.1 : Int)) ∧ (cellsL (A ++ y :: B))[j * 2 + 1]? = some y.2.1 := by
  have hl := cellsL_len A
  subst hj
  rw [cellsL_app]
  constructor
  · rw [List.getElem?_append_right (by omega), hl]
    simp [cellsL]
  · rw [List.getElem?_append_right (by omega), hl]
    simp [cellsL]
theorem cellsL_get (L : List (Nat × (Value × Bs))) (j : Nat) (h : j < L.length) : (cellsL L)[j * 2]? = some (.int .u32 (L[j].1 : Int)) ∧ (cellsL L)[j * 2 + 1]? = some L[j].2.1 := by
  have e : L.take j ++ L[j] :: L.drop (j + 1) = L := by rw [← List.drop_eq_getElem_cons h, List.take_append_drop]
  have q := cellsL_mid (L.take j) (L.drop (j + 1)) L[j] j (by simp; omega)
  rw [e] at q
  exact q
/-- what a slice of the call's own reads at a cell -/
theorem own_at {w : World} {B E g m cap : Nat} {xs : List Value} (h : w.ownsRow B E 2 (.slice (some ⟨g, 0, none⟩) m cap) m xs) {i : Nat} {v : Value} (hv : xs[i]? = some v) : w.cell? ⟨g, i, none⟩ = some v ∧ w.frozen? ⟨g, i, none⟩ = false ∧ g < w.heap.size := by
  obtain ⟨h0, ⟨e, _⟩ | ⟨g', cap', cur, e, hb, hg, hn, hm, hz, ht⟩⟩ := h
  · cases e
  · cases e
    have hi := (List.getElem?_eq_some_iff.1 hv).1
    refine ⟨cellOf hg i _ ?_, freeOf hg i, (Array.getElem?_eq_some_iff.1 hg).1⟩
    rw [← Array.getElem?_toList, ← hv, ← ht, List.getElem?_take, if_pos (by omega)]
/-- a store of a tag -/
theorem own_put {w : World} {B E g m cap j : Nat} {xs : List Value} (h : w.ownsRow B E 2 (.slice (some ⟨g, 0, none⟩) m cap) m xs) (a b : Value) :
    ((w.setCell ⟨g, j * 2, none⟩ a).setCell ⟨g, j * 2 + 1, none⟩ b).ownsRow B E 2 (.slice (some ⟨g, 0, none⟩) m cap) m ((xs.set (j * 2) a).set (j * 2 + 1) b) := by
  obtain ⟨h0, ⟨e, _⟩ | ⟨g', cap', cur, e, hb, hg, hn, hm, hz, ht⟩⟩ := h
  · cases e
  · cases e
    refine ⟨by simp [h0], .inr ⟨g, cap, _, rfl, hb, heap_set (heap_set hg a) b, hn, hm, by simpa using hz, ?_⟩⟩
    simp only [Array.toList_setIfInBounds, List.take_set, ht]
theorem cellsL_put (A B : List (Nat × (Value × Bs))) (y x : Nat × (Value × Bs)) (j : Nat) (hj : j = A.length) : ((cellsL (A ++ y :: B)).set (j * 2) (.int .u32 (x.1 : Int))).set (j * 2 + 1) x.2.1 = cellsL (A ++ x :: B) := by
  have hl := cellsL_len A
  subst hj
  rw [cellsL_app, cellsL_app, List.set_append_right _ _ (by omega), List.set_append_right _ _ (by omega), hl]
  simp [cellsL]
theorem shift_put {L : List (Nat × (Value × Bs))} {k : Nat} (hk : 0 < k) (hkl : k ≤ L.length) (y : Nat × (Value × Bs)) :
    ((cellsL (L.take k ++ y :: L.drop k)).set (k * 2) (.int .u32 ((L[k - 1]'(by omega)).1 : Int))).set (k * 2 + 1) (L[k - 1]'(by omega)).2.1 = cellsL (L.take (k - 1) ++ (L[k - 1]'(by omega)) :: L.drop (k - 1)) := by
  rw [cellsL_put _ _ _ _ k (by simp; omega)]
  have e1 : L.take k = L.take (k - 1) ++ [L[k - 1]'(by omega)] := by
    have := List.take_succ_eq_append_getElem (l := L) (i := k - 1) (by omega)
    rwa [show k - 1 + 1 = k by omega] at this
  have e2 : L.drop (k - 1) = (L[k - 1]'(by omega)) :: L.drop k := by
    have := List.drop_eq_getElem_cons (l := L) (i := k - 1) (by omega)
    rwa [show k - 1 + 1 = k by omega] at this
  generalize L[k - 1]'(by omega) = z at *
  rw [e2, e1]
  simp
end Go.Proofs.YtodbdecpacdgiaaDoor
