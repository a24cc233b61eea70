/-
  Reader.Int16.
-/
import Derived.Test.YtedconnhligkeaaDoorRead
namespace Go.Proofs.YtedconnhligkeaaDoor
open Go.ChangeShapes Go.WideShapes Go.ChangeAt Go.RowKit

set_option maxHeartbeats 400000 in
theorem u16_any (G : Nat → Prop) (w : World) (ao : Option Addr) (n cap : Nat) (b0 b1 : UInt8) (r : Bs) (h : RB w G (.slice ao n cap) (b0 :: b1 :: r)) :
    Calls Tryd.prog 53 #[.agg #[], .slice ao n cap] w fun e w' => e = .returned (.int .u16 (256 * (b0.toNat : Int) + b1.toNat)) ∧ Keep [] w w' := by
  obtain ⟨b, o, rfl, _, hn, _, hc⟩ := h.spot (by simp)
  have h0 : w.cell? ⟨b, o, none⟩ = some (.int .u8 b0.toNat) := hc 0 (by simp)
  have h1 : w.cell? ⟨b, o + 1, none⟩ = some (.int .u8 b1.toNat) := hc 1 (by simp)
  have h2 : 2 ≤ n := by simp at hn; omega
  have hlt := World.block_lt_of_cell? w _ h0
  have g0 : (w.alloc (Obj.cells #[] 79)).cell? ⟨b, o, none⟩ = some (.int .u8 b0.toNat) := by rw [World.cell?_alloc_lt _ _ _ hlt]; exact h0
  have g1 : (w.alloc (Obj.cells #[] 79)).cell? ⟨b, o + 1, none⟩ = some (.int .u8 b1.toNat) := by rw [World.cell?_alloc_lt _ _ _ (World.block_lt_of_cell? w _ h1)]; exact h1
  have hb0 : b0.toNat < 256 := b0.toNat_lt
  have hb1 : b1.toNat < 256 := b1.toNat_lt
  clear hc hn h h0 h1
  generalize b0.toNat = x0 at *
  generalize b1.toNat = x1 at *
  go_enter Tryd.func53, Tryd.ntmps53
  go_wp2
  go_quiet (fail)
  go_wp2
  refine bodyPost_ret (v := .int .u16 (256 * (x0 : Int) + x1)) ?_ rfl ⟨rfl, ((keep_box _).drewN _)⟩
  simp [results, Tryd.results53, go_sem]
  rw [or_up .u16 16 (by decide) wraps_u16 8 _ _ (by omega) (by omega) (by omega) (by omega) (by omega) (by omega)]
  omega

theorem i16_val (b0 b1 : UInt8) (r : Bs) (bad : Bool) : (rdI 2 (b0 :: b1 :: r, bad)).1 = IntKind.i16.wrap (256 * (b0.toNat : Int) + b1.toNat) := by
  have h0 : b0.toNat < 256 := b0.toNat_lt
  have h1 : b1.toNat < 256 := b1.toNat_lt
  simp only [rdI, rdN, List.length_cons, if_neg (show ¬ r.length + 1 + 1 < 2 by omega), List.take_succ_cons, List.take_zero, be, List.foldl_cons, List.foldl_nil, sgn, wrap_i16']
  split <;> split <;> omega
theorem i16_body : Tryd.f43.body.isNone = false := by kernel_rfl
set_option maxHeartbeats 400000 in
set_option maxRecDepth 100000 in
theorem int16_any {G : Nat → Prop} {b : Nat} {s : St} {w : World} (h : Rd w b G s) (hG : There G w) (hb : ¬ G b) :
    Calls Tryd.prog 43 #[.pointer (some ⟨b, 0, none⟩)] w fun e w' => e = .returned (.int .i16 (rdI 2 s).1) ∧ Rd w' b G (rdI 2 s).2 ∧ Keep [b] w w' := by
  obtain ⟨src, bad⟩ := s
  obtain ⟨v, hh, hr⟩ := h
  obtain ⟨ao, cap, rfl⟩ := RS.shape hr
  have c0 : w.cell? ⟨b, 0, none⟩ = some (.slice ao src.length cap) := cellOf hh 0 _ rfl
  have c1 : w.cell? ⟨b, 1, none⟩ = some (.bool bad) := cellOf hh 1 _ rfl
  have f0 := freeOf hh 0
  have f1 := freeOf hh 1
  go_enter Tryd.func43, Tryd.ntmps43
  by_cases hl : src.length < 2
  · go_wp2_with fail
    go_ret
    exact ⟨by simp [rdI, rdN, hl, sgn], ⟨.slice none 0 0, by simp only [rdI, rdN, hl, if_true]; exact heap_set (heap_set hh _) _, by simp only [rdI, rdN, hl, if_true]; exact RB.nil _ _⟩, ((Keep.refl _ _).setCell (.inl (by simp)) _).setCell (.inl (by simp)) _⟩
  · obtain ⟨b0, b1, r, rfl⟩ : ∃ b0 b1 r, src = b0 :: b1 :: r := by
      match src, hl with
      | b0 :: b1 :: r, _ => exact ⟨b0, b1, r, rfl⟩
      | [_], h => simp at h
      | [], h => simp at h
    have HH : Hid _ := hh
    clear hh
    have hS := c0
    go_wp2_with fail
    go_region_held3 (fun w' => w'.cell? ⟨b, 0, none⟩ = some (.slice ao (b0 :: b1 :: r).length cap)) (exact hS) (first
      | (go_at_call 53; refine (u16_any G _ ao _ cap b0 b1 r (hr.keepF (hG.same (Keep.refl _ _).drew) (fun _ h => h))).mono ?_; rintro e w2 ⟨rfl, hk2⟩; have kx : Keep [] w w2 := (Keep.refl _ _).drew.trans hk2; have hS := kx.cs c0))
    obtain ⟨bs, o, rfl, hGb, -, hcap, -⟩ := hr.spot (by simp)
    have hbw : b < w.heap.size := World.block_lt_of_cell? w _ c0
    have hh2 := (kx.block b hbw (by simp)).trans HH.out
    have d0 : w2.cell? ⟨b, 0, none⟩ = some (.slice (some ⟨bs, o, none⟩) (b0 :: b1 :: r).length cap) := cellOf hh2 0 _ rfl
    have e0 := freeOf hh2 0
    have HH2 : Hid _ := hh2
    clear hh2
    by_cases hcap : cap = 2
    · subst hcap
      go_wp2
      go_ret
      obtain ⟨q1, q2⟩ := rd_done (k := 2) (b := b) (v := .slice (some ⟨bs, o, none⟩) r.length 0) hG hb hr hl kx HH2.out (.inl ⟨by simp at hcap ⊢; omega, by simp at hcap ⊢; omega⟩)
      exact ⟨by simp [i16_val], q1, q2⟩
    · go_wp2
      go_ret
      obtain ⟨q1, q2⟩ := rd_done (k := 2) (b := b) (v := .slice (some ⟨bs, o + 2, none⟩) r.length (cap - 2)) hG hb hr hl kx HH2.out (.inr (by simp))
      exact ⟨by simp [i16_val], q1, q2⟩
end Go.Proofs.YtedconnhligkeaaDoor
