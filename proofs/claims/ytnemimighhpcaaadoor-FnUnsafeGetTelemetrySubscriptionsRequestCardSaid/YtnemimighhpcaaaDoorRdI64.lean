/-
  Reader.readUint64, Reader.Int64.
-/
import Derived.Test.YtnemimighhpcaaaDoorRead
namespace Go.Proofs.YtnemimighhpcaaaDoor
open Go.ChangeShapes Go.WideShapes Go.ChangeAt Go.RowKit

set_option maxHeartbeats 400000 in
set_option maxRecDepth 100000 in
theorem u64_any (G : Nat → Prop) (w : World) (ao : Option Addr) (n cap : Nat) (b0 b1 b2 b3 b4 b5 b6 b7 : UInt8) (r : Bs) (h : RB w G (.slice ao n cap) (b0 :: b1 :: b2 :: b3 :: b4 :: b5 :: b6 :: b7 :: r)) :
    Calls Tryd.prog 189 #[.agg #[], .slice ao n cap] w fun e w' => e = .returned (.int .u64 (72057594037927936 * (b0.toNat : Int) + 281474976710656 * b1.toNat + 1099511627776 * b2.toNat + 4294967296 * b3.toNat + 16777216 * b4.toNat + 65536 * b5.toNat + 256 * b6.toNat + b7.toNat)) ∧ Keep [] w w' := by
  obtain ⟨b, o, rfl, _, hn, _, hc⟩ := h.spot (by simp)
  have h0 : w.cell? ⟨b, o, none⟩ = some (.int .u8 b0.toNat) := hc 0 (by simp)
  have h1 : w.cell? ⟨b, o + 1, none⟩ = some (.int .u8 b1.toNat) := hc 1 (by simp)
  have h2 : w.cell? ⟨b, o + 2, none⟩ = some (.int .u8 b2.toNat) := hc 2 (by simp)
  have h3 : w.cell? ⟨b, o + 3, none⟩ = some (.int .u8 b3.toNat) := hc 3 (by simp)
  have h4 : w.cell? ⟨b, o + 4, none⟩ = some (.int .u8 b4.toNat) := hc 4 (by simp)
  have h5 : w.cell? ⟨b, o + 5, none⟩ = some (.int .u8 b5.toNat) := hc 5 (by simp)
  have h6 : w.cell? ⟨b, o + 6, none⟩ = some (.int .u8 b6.toNat) := hc 6 (by simp)
  have h7 : w.cell? ⟨b, o + 7, none⟩ = some (.int .u8 b7.toNat) := hc 7 (by simp)
  have hk : 8 ≤ n := by simp at hn; omega
  have g0 : (w.alloc (Obj.cells #[] 173)).cell? ⟨b, o, none⟩ = some (.int .u8 b0.toNat) := by rw [World.cell?_alloc_lt _ _ _ (World.block_lt_of_cell? w _ h0)]; exact h0
  have g1 : (w.alloc (Obj.cells #[] 173)).cell? ⟨b, o + 1, none⟩ = some (.int .u8 b1.toNat) := by rw [World.cell?_alloc_lt _ _ _ (World.block_lt_of_cell? w _ h1)]; exact h1
  have g2 : (w.alloc (Obj.cells #[] 173)).cell? ⟨b, o + 2, none⟩ = some (.int .u8 b2.toNat) := by rw [World.cell?_alloc_lt _ _ _ (World.block_lt_of_cell? w _ h2)]; exact h2
  have g3 : (w.alloc (Obj.cells #[] 173)).cell? ⟨b, o + 3, none⟩ = some (.int .u8 b3.toNat) := by rw [World.cell?_alloc_lt _ _ _ (World.block_lt_of_cell? w _ h3)]; exact h3
  have g4 : (w.alloc (Obj.cells #[] 173)).cell? ⟨b, o + 4, none⟩ = some (.int .u8 b4.toNat) := by rw [World.cell?_alloc_lt _ _ _ (World.block_lt_of_cell? w _ h4)]; exact h4
  have g5 : (w.alloc (Obj.cells #[] 173)).cell? ⟨b, o + 5, none⟩ = some (.int .u8 b5.toNat) := by rw [World.cell?_alloc_lt _ _ _ (World.block_lt_of_cell? w _ h5)]; exact h5
  have g6 : (w.alloc (Obj.cells #[] 173)).cell? ⟨b, o + 6, none⟩ = some (.int .u8 b6.toNat) := by rw [World.cell?_alloc_lt _ _ _ (World.block_lt_of_cell? w _ h6)]; exact h6
  have g7 : (w.alloc (Obj.cells #[] 173)).cell? ⟨b, o + 7, none⟩ = some (.int .u8 b7.toNat) := by rw [World.cell?_alloc_lt _ _ _ (World.block_lt_of_cell? w _ h7)]; exact h7
  have hb0 : b0.toNat < 256 := b0.toNat_lt
  have hb1 : b1.toNat < 256 := b1.toNat_lt
  have hb2 : b2.toNat < 256 := b2.toNat_lt
  have hb3 : b3.toNat < 256 := b3.toNat_lt
  have hb4 : b4.toNat < 256 := b4.toNat_lt
  have hb5 : b5.toNat < 256 := b5.toNat_lt
  have hb6 : b6.toNat < 256 := b6.toNat_lt
  have hb7 : b7.toNat < 256 := b7.toNat_lt
  clear hc hn h h0 h1 h2 h3 h4 h5 h6 h7
  generalize b0.toNat = x0 at *
  generalize b1.toNat = x1 at *
  generalize b2.toNat = x2 at *
  generalize b3.toNat = x3 at *
  generalize b4.toNat = x4 at *
  generalize b5.toNat = x5 at *
  generalize b6.toNat = x6 at *
  generalize b7.toNat = x7 at *
  go_enter Tryd.func189, Tryd.ntmps189
  go_wp2
  go_quiet (fail)
  go_wp2
  refine bodyPost_ret (v := .int .u64 (72057594037927936 * (x0 : Int) + 281474976710656 * x1 + 1099511627776 * x2 + 4294967296 * x3 + 16777216 * x4 + 65536 * x5 + 256 * x6 + x7)) ?_ rfl ⟨rfl, ((keep_box _).drewN _)⟩
  simp [results, Tryd.results189, go_sem]
  rw [or_up .u64 64 (by decide) wraps_u64 8 ((x6 : Int) * 256) (x7 : Int) (by omega) (by omega) (by omega) (by omega) (by omega) (by omega), or_up .u64 64 (by decide) wraps_u64 16 ((x5 : Int) * 65536) _ (by omega) (by omega) (by omega) (by omega) (by omega) (by omega), or_up .u64 64 (by decide) wraps_u64 24 ((x4 : Int) * 16777216) _ (by omega) (by omega) (by omega) (by omega) (by omega) (by omega), or_up .u64 64 (by decide) wraps_u64 32 ((x3 : Int) * 4294967296) _ (by omega) (by omega) (by omega) (by omega) (by omega) (by omega), or_up .u64 64 (by decide) wraps_u64 40 ((x2 : Int) * 1099511627776) _ (by omega) (by omega) (by omega) (by omega) (by omega) (by omega), or_up .u64 64 (by decide) wraps_u64 48 ((x1 : Int) * 281474976710656) _ (by omega) (by omega) (by omega) (by omega) (by omega) (by omega), or_up .u64 64 (by decide) wraps_u64 56 ((x0 : Int) * 72057594037927936) _ (by omega) (by omega) (by omega) (by omega) (by omega) (by omega)]
  omega
theorem i64_val (b0 b1 b2 b3 b4 b5 b6 b7 : UInt8) (r : Bs) (bad : Bool) : (rdI 8 (b0 :: b1 :: b2 :: b3 :: b4 :: b5 :: b6 :: b7 :: r, bad)).1 = IntKind.i64.wrap (72057594037927936 * (b0.toNat : Int) + 281474976710656 * b1.toNat + 1099511627776 * b2.toNat + 4294967296 * b3.toNat + 16777216 * b4.toNat + 65536 * b5.toNat + 256 * b6.toNat + b7.toNat) := by
  have h0 : b0.toNat < 256 := b0.toNat_lt
  have h1 : b1.toNat < 256 := b1.toNat_lt
  have h2 : b2.toNat < 256 := b2.toNat_lt
  have h3 : b3.toNat < 256 := b3.toNat_lt
  have h4 : b4.toNat < 256 := b4.toNat_lt
  have h5 : b5.toNat < 256 := b5.toNat_lt
  have h6 : b6.toNat < 256 := b6.toNat_lt
  have h7 : b7.toNat < 256 := b7.toNat_lt
  simp only [rdI, rdN, List.length_cons, if_neg (show ¬ r.length + 1 + 1 + 1 + 1 + 1 + 1 + 1 + 1 < 8 by omega), List.take_succ_cons, List.take_zero, be, List.foldl_cons, List.foldl_nil, sgn, IntKind.wrap_i64]
  split <;> omega
theorem rdI8_wrap (s : St) : (rdI 8 s).1 = IntKind.i64.wrap ((rdN 8 s).1 : Int) := by
  have h := rdN_lt 8 s
  simp only [rdI, sgn, IntKind.wrap_i64]
  split <;> omega
theorem rdN_val (b0 b1 b2 b3 b4 b5 b6 b7 : UInt8) (r : Bs) (bad : Bool) : ((rdN 8 (b0 :: b1 :: b2 :: b3 :: b4 :: b5 :: b6 :: b7 :: r, bad)).1 : Int) = 72057594037927936 * (b0.toNat : Int) + 281474976710656 * b1.toNat + 1099511627776 * b2.toNat + 4294967296 * b3.toNat + 16777216 * b4.toNat + 65536 * b5.toNat + 256 * b6.toNat + b7.toNat := by
  simp only [rdN, List.length_cons, if_neg (show ¬ r.length + 1 + 1 + 1 + 1 + 1 + 1 + 1 + 1 < 8 by omega), List.take_succ_cons, List.take_zero, be, List.foldl_cons, List.foldl_nil]
  omega
set_option maxHeartbeats 400000 in
set_option maxRecDepth 100000 in
theorem readu64_any {G : Nat → Prop} {b : Nat} {s : St} {w : World} (h : Rd w b G s) (hG : There G w) (hb : ¬ G b) :
    Calls Tryd.prog 167 #[.pointer (some ⟨b, 0, none⟩)] w fun e w' => e = .returned (.int .u64 ((rdN 8 s).1 : Int)) ∧ Rd w' b G (rdI 8 s).2 ∧ Keep [b] w w' := by
  obtain ⟨src, bad⟩ := s
  obtain ⟨v, hh, hr⟩ := h
  obtain ⟨ao, cap, rfl⟩ := RS.shape hr
  have c0 : w.cell? ⟨b, 0, none⟩ = some (.slice ao src.length cap) := cellOf hh 0 _ rfl
  have c1 : w.cell? ⟨b, 1, none⟩ = some (.bool bad) := cellOf hh 1 _ rfl
  have f0 := freeOf hh 0
  have f1 := freeOf hh 1
  go_enter Tryd.func167, Tryd.ntmps167
  by_cases hl : src.length < 8
  · go_wp2_with fail
    go_ret
    exact ⟨by simp [rdN, hl], ⟨.slice none 0 0, by simp only [rdI, rdN, hl, if_true]; exact heap_set (heap_set hh _) _, by simp only [rdI, rdN, hl, if_true]; exact RB.nil _ _⟩, ((Keep.refl _ _).setCell (.inl (by simp)) _).setCell (.inl (by simp)) _⟩
  · obtain ⟨b0, b1, b2, b3, b4, b5, b6, b7, r, rfl⟩ : ∃ b0 b1 b2 b3 b4 b5 b6 b7 r, src = b0 :: b1 :: b2 :: b3 :: b4 :: b5 :: b6 :: b7 :: r := by
      match src, hl with
      | b0 :: b1 :: b2 :: b3 :: b4 :: b5 :: b6 :: b7 :: r, _ => exact ⟨b0, b1, b2, b3, b4, b5, b6, b7, r, rfl⟩
      | [_, _, _, _, _, _, _], h => simp at h
      | [_, _, _, _, _, _], h => simp at h
      | [_, _, _, _, _], h => simp at h
      | [_, _, _, _], h => simp at h
      | [_, _, _], h => simp at h
      | [_, _], h => simp at h
      | [_], h => simp at h
      | [], h => simp at h
    have HH : Hid _ := hh
    clear hh
    have hS := c0
    go_wp2_with fail
    go_region_held3 (fun w' => w'.cell? ⟨b, 0, none⟩ = some (.slice ao (b0 :: b1 :: b2 :: b3 :: b4 :: b5 :: b6 :: b7 :: r).length cap)) (exact hS) (first
      | (go_at_call 189; refine (u64_any G _ ao _ cap b0 b1 b2 b3 b4 b5 b6 b7 r (hr.keepF (hG.same (Keep.refl _ _).drew) (fun _ h => h))).mono ?_; rintro e w2 ⟨rfl, hk2⟩; have kx : Keep [] w w2 := (Keep.refl _ _).drew.trans hk2; have hS := kx.cs c0))
    obtain ⟨bs, o, rfl, hGb, -, hcap, -⟩ := hr.spot (by simp)
    have hbw : b < w.heap.size := World.block_lt_of_cell? w _ c0
    have hh2 := (kx.block b hbw (by simp)).trans HH.out
    have d0 : w2.cell? ⟨b, 0, none⟩ = some (.slice (some ⟨bs, o, none⟩) (b0 :: b1 :: b2 :: b3 :: b4 :: b5 :: b6 :: b7 :: r).length cap) := cellOf hh2 0 _ rfl
    have e0 := freeOf hh2 0
    have HH2 : Hid _ := hh2
    clear hh2
    by_cases hcap : cap = 8
    · subst hcap
      go_wp2
      go_ret
      obtain ⟨q1, q2⟩ := rd_done (k := 8) (b := b) (v := .slice (some ⟨bs, o, none⟩) r.length 0) hG hb hr hl kx HH2.out (.inl ⟨by simp at hcap ⊢; omega, by simp at hcap ⊢; omega⟩)
      exact ⟨by rw [rdN_val]; rfl, q1, q2⟩
    · go_wp2
      go_ret
      obtain ⟨q1, q2⟩ := rd_done (k := 8) (b := b) (v := .slice (some ⟨bs, o + 8, none⟩) r.length (cap - 8)) hG hb hr hl kx HH2.out (.inr (by simp))
      exact ⟨by rw [rdN_val]; rfl, q1, q2⟩
set_option maxHeartbeats 400000 in
set_option maxRecDepth 100000 in
theorem int64_any {G : Nat → Prop} {b : Nat} {s : St} {w : World} (h : Rd w b G s) (hG : There G w) (hb : ¬ G b) :
    Calls Tryd.prog 144 #[.pointer (some ⟨b, 0, none⟩)] w fun e w' => e = .returned (.int .i64 (rdI 8 s).1) ∧ Rd w' b G (rdI 8 s).2 ∧ Keep [b] w w' := by
  have hw := rdI8_wrap s
  have hw2 : wrap64 ((rdN 8 s).1 : Int) = IntKind.i64.wrap ((rdN 8 s).1 : Int) := by rw [IntKind.wrap_i64]; unfold wrap64; omega
  go_enter Tryd.func144, Tryd.ntmps144
  go_wp2_with (go_at_call 167; go_loud (refine (readu64_any h hG hb).mono ?_; rintro e w1 ⟨rfl, h1, k1⟩))
  go_ret
  exact ⟨by rw [hw, ← hw2]; rfl, h1, k1⟩
end Go.Proofs.YtnemimighhpcaaaDoor
