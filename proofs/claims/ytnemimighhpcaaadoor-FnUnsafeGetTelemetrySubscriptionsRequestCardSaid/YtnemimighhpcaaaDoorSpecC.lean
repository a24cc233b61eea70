/-
  spec.at, Field.has, Field.null.
-/
import Derived.Test.YtnemimighhpcaaaDoorSpecB
namespace Go.Proofs.YtnemimighhpcaaaDoor
open Go.ChangeShapes Go.WideShapes Go.ChangeAt Go.RowKit

theorem RS.nil (w : World) (G : Nat → Prop) : RS w G (.slice none 0 0) 0 [] := ⟨none, 0, rfl, Nat.le_refl _, fun _ => ⟨rfl, rfl, rfl⟩, (fun a h => by cases h)⟩
theorem RB.nil (w : World) (G : Nat → Prop) : RB w G (.slice none 0 0) [] := RS.nil w G
theorem HTs.nil (w : World) (G : Nat → Prop) : HTs w G (.slice none 0 0) [] := ⟨[], rfl, (fun i h => by simp at h), by simp, RS.nil w G⟩
theorem HGs.nil (w : World) (G : Nat → Prop) : HGs w G (.slice none 0 0) [] := ⟨[], rfl, (fun i h => by simp at h), (fun x h => by cases h), by simp, RS.nil w G⟩
theorem HT.zero (w : World) (G : Nat → Prop) : HT w G T.zero [.int .i64 0, .slice none 0 0, .bool false, .slice none 0 0, .slice none 0 0] :=
  .mk 0 [] false [] [] _ _ _ [] (RB.nil w G) (by simp) rfl (fun i h => by simp at h) (RS.nil w G) (HGs.nil w G)

theorem RS.shape {w : World} {G : Nat → Prop} {v : Value} {n : Nat} {xs : List Value} (h : RS w G v n xs) : ∃ ao cap, v = .slice ao n cap := by
  obtain ⟨ao, cap, e, _⟩ := h
  exact ⟨ao, cap, e⟩
theorem HGs.shape {w : World} {G : Nat → Prop} {v : Value} {u : List Tg} (h : HGs w G v u) : ∃ ao cap, v = .slice ao u.length cap := by
  obtain ⟨_, _, _, _, _, h4⟩ := h
  exact h4.shape
/-- the blocks G were there -/
def There (G : Nat → Prop) (w : World) : Prop := ∀ k, G k → k < w.heap.size
theorem There.same {G : Nat → Prop} {w w' : World} (h : There G w) (hk : Keep [] w w') : SameOn G w w' := fun k hg => hk.block k (h k hg) (by simp)
theorem There.keep {G : Nat → Prop} {w w' : World} (h : There G w) (hk : Keep [] w w') : There G w' := fun k hg => Nat.lt_of_lt_of_le (h k hg) hk.size

set_option maxHeartbeats 1000000 in
set_option maxRecDepth 100000 in
theorem at_any {G : Nat → Prop} {t : T} {c : List Value} {w : World} (ht : HT w G t c) (hG : There G w) (i : Nat) :
    Calls Tryd.prog 63 #[.agg c.toArray, .int .i64 i] w fun e w' => ∃ c', e = .returned (.agg c'.toArray) ∧ HT w' G (atT t i) c' ∧ Keep [] w w' := by
  obtain ⟨vs, vl, vu, rfl, hs, hl, hu, hn1, hn2, hn3, hn4⟩ := ht.parts
  by_cases hi : i < t.l.length
  · obtain ⟨b, o, cap, c, rfl, hcap, hGb, hc, hcell⟩ := hl.elem hi
    obtain ⟨vs', vl', vu', rfl, k1, k2, k3, _⟩ := hc.parts
    obtain ⟨az, ps, rfl⟩ := RS.shape k1
    obtain ⟨al, pl, rfl, _⟩ := HTs.shape k2
    obtain ⟨au, pu, rfl⟩ := HGs.shape k3
    clear k1 k2 k3
    have hlt : b < w.heap.size := hG b hGb
    have c0 : w.cell? ⟨b, o + i * 5, none⟩ = some (Value.int .i64 (t.l[i]).n) := hcell 0 (by simp)
    have c1 : w.cell? ⟨b, o + i * 5 + 1, none⟩ = some (.slice az (t.l[i]).s.length ps) := hcell 1 (by simp)
    have c2 : w.cell? ⟨b, o + i * 5 + 2, none⟩ = some (.bool (t.l[i]).null) := hcell 2 (by simp)
    have c3 : w.cell? ⟨b, o + i * 5 + 3, none⟩ = some (.slice al (t.l[i]).l.length pl) := hcell 3 (by simp)
    have c4 : w.cell? ⟨b, o + i * 5 + 4, none⟩ = some (.slice au (t.l[i]).u.length pu) := hcell 4 (by simp)
    clear hcell
    generalize hx : t.l[i] = x at *
    have HX : Hid (t.l[i] = x) := hx
    clear hx
    go_enter Tryd.func63, Tryd.ntmps63
    go_wp2
    refine bodyPost_ret (v := .agg #[.int .i64 x.n, .slice az x.s.length ps, .bool x.null, .slice al x.l.length pl, .slice au x.u.length pu]) (by simp [results, Tryd.results63, go_sem]) rfl ?_
    have hk : Keep [] w ((w.alloc (.cells #[.int .i64 t.n, vs, .bool t.null, .slice (some ⟨b, o, none⟩) t.l.length cap, vu] 26)).alloc (.cells #[.int .i64 x.n, .slice az x.s.length ps, .bool x.null, .slice al x.l.length pl, .slice au x.u.length pu] 26)) := ((Keep.refl _ _).alloc _).alloc _
    refine ⟨[_, _, _, _, _], rfl, ?_, hk⟩
    have e : atT t i = x := by rw [← HX.out]; simp [atT, hi]
    rw [e]
    exact hc.keepF (hG.same hk) (fun _ h => h)
  · have hat : atT t i = T.zero := by simp [atT, List.getElem?_eq_none (Nat.not_lt.1 hi)]
    have HAT : Hid (atT t i = T.zero) := hat
    obtain ⟨al, pl, rfl, _⟩ := hl.shape
    clear hat ht
    go_enter Tryd.func63, Tryd.ntmps63
    go_wp2
    refine bodyPost_ret (v := .agg #[.int .i64 0, .slice none 0 0, .bool false, .slice none 0 0, .slice none 0 0]) (by simp [results, Tryd.results63, go_sem]) rfl ⟨[_, _, _, _, _], rfl, ?_, ((Keep.refl _ _).alloc _).alloc _⟩
    rw [HAT.out]
    exact HT.zero _ _

/-- a field's cells, by name -/
theorem HF.cells {w : World} {G : Nat → Prop} {f : F} {c : List Value} (h : HF w G f c) : ∃ ao cap, c = [.int .i64 f.kind, .int .i64 f.frm, .int .i64 f.to, .int .i64 f.nul, .int .i64 f.tag, .int .i64 f.dfl, .int .i64 f.ofk, .slice ao f.sub.length cap] ∧ HFs w G (.slice ao f.sub.length cap) f.sub := by
  obtain ⟨v, rfl, h1⟩ := h.parts
  obtain ⟨ao, cap, rfl, _⟩ := h1.shape
  exact ⟨ao, cap, rfl, h1⟩
theorem HT.cells {w : World} {G : Nat → Prop} {t : T} {c : List Value} (h : HT w G t c) :
    ∃ az ps al pl au pu, c = [.int .i64 t.n, .slice az t.s.length ps, .bool t.null, .slice al t.l.length pl, .slice au t.u.length pu] ∧ RB w G (.slice az t.s.length ps) t.s ∧ HTs w G (.slice al t.l.length pl) t.l ∧ HGs w G (.slice au t.u.length pu) t.u ∧ -9223372036854775808 ≤ t.n ∧ t.n ≤ 9223372036854775807 ∧ t.s.length ≤ 1099511627776 ∧ t.l.length ≤ 1099511627776 := by
  obtain ⟨vs, vl, vu, rfl, k1, k2, k3, k4⟩ := h.parts
  obtain ⟨az, ps, rfl⟩ := RS.shape k1
  obtain ⟨al, pl, rfl, _⟩ := HTs.shape k2
  obtain ⟨au, pu, rfl⟩ := HGs.shape k3
  exact ⟨az, ps, al, pl, au, pu, rfl, k1, k2, k3, k4⟩

set_option maxHeartbeats 400000 in
theorem has_any {G : Nat → Prop} {f : F} {c : List Value} {w : World} (hf : HF w G f c) (v : Int) :
    Calls Tryd.prog 82 #[.agg c.toArray, .int .i64 v] w fun e w' => e = .returned (.bool (f.has v)) ∧ Keep [] w w' := by
  obtain ⟨ao, cap, rfl, _⟩ := hf.cells
  clear hf
  unfold F.has
  generalize f.frm = a
  generalize f.to = b
  by_cases h1 : a ≤ v <;> by_cases h2 : b < 0 <;> by_cases h3 : v ≤ b
  all_goals
    go_enter Tryd.func82, Tryd.ntmps82
    go_wp2
    go_ret
    exact ⟨by simp [h1, h2, h3], (Keep.refl _ _).alloc _⟩

set_option maxHeartbeats 400000 in
theorem null_any {G : Nat → Prop} {f : F} {c : List Value} {t : T} {ct : List Value} {w : World} (hf : HF w G f c) (ht : HT w G t ct) (v : Int) :
    Calls Tryd.prog 124 #[.agg c.toArray, .int .i64 v, .agg ct.toArray] w fun e w' => e = .returned (.bool (f.isNull v t)) ∧ Keep [] w w' := by
  obtain ⟨ao, cap, rfl, _⟩ := hf.cells
  obtain ⟨az, ps, al, pl, au, pu, rfl, _⟩ := ht.cells
  clear hf ht
  unfold F.isNull
  generalize f.nul = a
  generalize t.null = b
  cases b <;> by_cases h2 : 0 ≤ a <;> by_cases h3 : a ≤ v
  all_goals
    go_enter Tryd.func124, Tryd.ntmps124
    go_wp2
    go_ret
    exact ⟨by simp [*], ((Keep.refl _ _).alloc _).alloc _⟩
end Go.Proofs.YtnemimighhpcaaaDoor
