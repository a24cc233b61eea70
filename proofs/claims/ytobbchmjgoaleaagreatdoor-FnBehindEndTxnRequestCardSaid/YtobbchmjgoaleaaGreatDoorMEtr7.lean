/-
  Reader.Complete.
-/
import Derived.Test.YtobbchmjgoaleaaGreatDoorMEtr3
import Derived.Test.YtobbchmjgoaleaaGreatDoorMEtr5
import Derived.Test.YtobbchmjgoaleaaGreatDoorMEtr6
import Derived.Test.YtobbchmjgoaleaaGreatDoorMEtr4
namespace Go.Proofs.YtobbchmjgoaleaaGreatDoor
open Go.ChangeShapes Go.WideShapes Go.ChangeAt Go.RowKit

/-- the package's errors lie where they were laid -/
def Gl (w : World) (p : Addr) : Prop := w.cell? ⟨1, 0, none⟩ = some (.iface 238 (.pointer (some p)))
theorem Gl.keep {A : List Nat} {w w' : World} {p : Addr} (h : Gl w p) (hk : Keep A w w') (hA : 1 ∉ A) : Gl w' p :=
  (hk.cell (World.block_lt_of_cell? w _ h) hA).trans h
/-- what a reading answers -/
def errV (p : Addr) (bad : Bool) : Value := if bad then .iface 238 (.pointer (some p)) else .nilIface
theorem errV_true (p : Addr) : errV p true = .iface 238 (.pointer (some p)) := rfl
theorem errV_false (p : Addr) : errV p false = .nilIface := rfl
set_option maxHeartbeats 400000 in
set_option maxRecDepth 100000 in
theorem complete_any {G : Nat → Prop} {b : Nat} {p : Addr} {s : St} {w : World} (h : Rd w b G s) (hg : Gl w p) :
    Calls Tryz.prog 188 #[.pointer (some ⟨b, 0, none⟩)] w fun e w' => e = .returned (errV p s.2) ∧ Keep [] w w' := by
  obtain ⟨src, bad⟩ := s
  obtain ⟨v, hh, hr⟩ := h
  have c1 : w.cell? ⟨b, 1, none⟩ = some (.bool bad) := cellOf hh 1 _ rfl
  unfold Gl at hg
  go_enter Tryz.func188, Tryz.ntmps188
  cases bad
  · go_wp2
    go_ret
    exact ⟨rfl, Keep.refl _ _⟩
  · go_wp2
    go_ret
    exact ⟨rfl, Keep.refl _ _⟩
end Go.Proofs.YtobbchmjgoaleaaGreatDoor
/-
  Reader.readUint64, Reader.Int64.
-/
namespace Go.Proofs.YtobbchmjgoaleaaGreatDoor
open Go.ChangeShapes Go.WideShapes Go.ChangeAt Go.RowKit

set_option maxHeartbeats 400000 in
set_option maxRecDepth 100000 in
theorem u64_any (G : Nat → Prop) (w : World) (ao : Option Addr) (n cap : Nat) (b0 b1 b2 b3 b4 b5 b6 b7 : UInt8) (r : Bs) (h : RB w G (.slice ao n cap) (b0 :: b1 :: b2 :: b3 :: b4 :: b5 :: b6 :: b7 :: r)) :
    Calls Tryz.prog 230 #[.agg #[], .slice ao n cap] w fun e w' => e = .returned (.int .u64 (72057594037927936 * (b0.toNat : Int) + 281474976710656 * b1.toNat + 1099511627776 * b2.toNat + 4294967296 * b3.toNat + 16777216 * b4.toNat + 65536 * b5.toNat + 256 * b6.toNat + b7.toNat)) ∧ Keep [] w w' := by
  obtain ⟨b, o, rfl, _, hn, _, hc⟩ := h.spot (by simp)
  have h0 : w.cell? ⟨b, o, none⟩ = some (.int .u8 b0.toNat) := hc 0 (by simp)
  have h1 : w.cell? ⟨b, o + 1, none⟩ = some (.int .u8 b1.toNat) := hc 1 (by simp)
  have h2 : w.cell? ⟨b, o + 2, none⟩ = some (.int .u8 b2.toNat) := hc 2 (by simp)
  have h3 : w.cell? ⟨b, o + 3, none⟩ = some (.int .u8 b3.toNat) := hc 3 (by simp)
  have h4 : w.cell? ⟨b, o + 4, none⟩ = some (.int .u8 b4.toNat) := hc 4 (by simp)
  have h5 : w.cell? ⟨b, o + 5, none⟩ = some (.int .u8 b5.toNat) := hc 5 (by simp)
  have h6 : w.cell? ⟨b, o + 6, none⟩ = some (.int .u8 b6.toNat) := hc 6 (by simp)
  have h7 : w.cell? ⟨b, o + 7, none⟩ = some (.int .u8 b7.toNat) := hc 7 (by simp)
  have hk : 8 ≤ n := by simp at hn; omega
  have g0 : (w.alloc (Obj.cells #[] 194)).cell? ⟨b, o, none⟩ = some (.int .u8 b0.toNat) := by rw [World.cell?_alloc_lt _ _ _ (World.block_lt_of_cell? w _ h0)]; exact h0
  have g1 : (w.alloc (Obj.cells #[] 194)).cell? ⟨b, o + 1, none⟩ = some (.int .u8 b1.toNat) := by rw [World.cell?_alloc_lt _ _ _ (World.block_lt_of_cell? w _ h1)]; exact h1
  have g2 : (w.alloc (Obj.cells #[] 194)).cell? ⟨b, o + 2, none⟩ = some (.int .u8 b2.toNat) := by rw [World.cell?_alloc_lt _ _ _ (World.block_lt_of_cell? w _ h2)]; exact h2
  have g3 : (w.alloc (Obj.cells #[] 194)).cell? ⟨b, o + 3, none⟩ = some (.int .u8 b3.toNat) := by rw [World.cell?_alloc_lt _ _ _ (World.block_lt_of_cell? w _ h3)]; exact h3
  have g4 : (w.alloc (Obj.cells #[] 194)).cell? ⟨b, o + 4, none⟩ = some (.int .u8 b4.toNat) := by rw [World.cell?_alloc_lt _ _ _ (World.block_lt_of_cell? w _ h4)]; exact h4
  have g5 : (w.alloc (Obj.cells #[] 194)).cell? ⟨b, o + 5, none⟩ = some (.int .u8 b5.toNat) := by rw [World.cell?_alloc_lt _ _ _ (World.block_lt_of_cell? w _ h5)]; exact h5
  have g6 : (w.alloc (Obj.cells #[] 194)).cell? ⟨b, o + 6, none⟩ = some (.int .u8 b6.toNat) := by rw [World.cell?_alloc_lt _ _ _ (World.block_lt_of_cell? w _ h6)]; exact h6
  have g7 : (w.alloc (Obj.cells #[] 194)).cell? ⟨b, o + 7, none⟩ = some (.int .u8 b7.toNat) := by rw [World.cell?_alloc_lt _ _ _ (World.block_lt_of_cell? w _ h7)]; exact h7
  have hb0 : b0.toNat < 256 := b0.toNat_lt
  have hb1 : b1.toNat < 256 := b1.toNat_lt
  have hb2 : b2.toNat < 256 := b2.toNat_lt
  have hb3 : b3.toNat < 256 := b3.toNat_lt
  have hb4 : b4.toNat < 256 := b4.toNat_lt
  have hb5 : b5.toNat < 256 := b5.toNat_lt
  have hb6 : b6.toNat < 256 := b6.toNat_lt
  have hb7 : b7.toNat < 256 := b7.toNat_lt
  clear hc hn h h0 h1 h2 h3 h4 h5 h6 h7
  generalize b0.toNat = x0 at *
  generalize b1.toNat = x1 at *
  generalize b2.toNat = x2 at *
  generalize b3.toNat = x3 at *
  generalize b4.toNat = x4 at *
  generalize b5.toNat = x5 at *
  generalize b6.toNat = x6 at *
  generalize b7.toNat = x7 at *
  go_enter Tryz.func230, Tryz.ntmps230
  go_wp2
  go_quiet (fail)
  go_wp2
  refine bodyPost_ret (v := .int .u64 (72057594037927936 * (x0 : Int) + 281474976710656 * x1 + 1099511627776 * x2 + 4294967296 * x3 + 16777216 * x4 + 65536 * x5 + 256 * x6 + x7)) ?_ rfl ⟨rfl, ((keep_box _).drewN _)⟩
  simp [results, Tryz.results230, go_sem]
  rw [or_up .u64 64 (by decide) wraps_u64 8 ((x6 : Int) * 256) (x7 : Int) (by omega) (by omega) (by omega) (by omega) (by omega) (by omega), or_up .u64 64 (by decide) wraps_u64 16 ((x5 : Int) * 65536) _ (by omega) (by omega) (by omega) (by omega) (by omega) (by omega), or_up .u64 64 (by decide) wraps_u64 24 ((x4 : Int) * 16777216) _ (by omega) (by omega) (by omega) (by omega) (by omega) (by omega), or_up .u64 64 (by decide) wraps_u64 32 ((x3 : Int) * 4294967296) _ (by omega) (by omega) (by omega) (by omega) (by omega) (by omega), or_up .u64 64 (by decide) wraps_u64 40 ((x2 : Int) * 1099511627776) _ (by omega) (by omega) (by omega) (by omega) (by omega) (by omega), or_up .u64 64 (by decide) wraps_u64 48 ((x1 : Int) * 281474976710656) _ (by omega) (by omega) (by omega) (by omega) (by omega) (by omega), or_up .u64 64 (by decide) wraps_u64 56 ((x0 : Int) * 72057594037927936) _ (by omega) (by omega) (by omega) (by omega) (by omega) (by omega)]
  omega
theorem i64_val (b0 b1 b2 b3 b4 b5 b6 b7 : UInt8) (r : Bs) (bad : Bool) : (rdI 8 (b0 :: b1 :: b2 :: b3 :: b4 :: b5 :: b6 :: b7 :: r, bad)).1 = IntKind.i64.wrap (72057594037927936 * (b0.toNat : Int) + 281474976710656 * b1.toNat + 1099511627776 * b2.toNat + 4294967296 * b3.toNat + 16777216 * b4.toNat + 65536 * b5.toNat + 256 * b6.toNat + b7.toNat) := by
  have h0 : b0.toNat < 256 := b0.toNat_lt
  have h1 : b1.toNat < 256 := b1.toNat_lt
  have h2 : b2.toNat < 256 := b2.toNat_lt
  have h3 : b3.toNat < 256 := b3.toNat_lt
  have h4 : b4.toNat < 256 := b4.toNat_lt
  have h5 : b5.toNat < 256 := b5.toNat_lt
  have h6 : b6.toNat < 256 := b6.toNat_lt
  have h7 : b7.toNat < 256 := b7.toNat_lt
  simp only [rdI, rdN, List.length_cons, if_neg (show ¬ r.length + 1 + 1 + 1 + 1 + 1 + 1 + 1 + 1 < 8 by omega), List.take_succ_cons, List.take_zero, be, List.foldl_cons, List.foldl_nil, sgn, IntKind.wrap_i64]
  split <;> omega
theorem rdI8_wrap (s : St) : (rdI 8 s).1 = IntKind.i64.wrap ((rdN 8 s).1 : Int) := by
  have h := rdN_lt 8 s
  simp only [rdI, sgn, IntKind.wrap_i64]
  split <;> omega
theorem rdN_val (b0 b1 b2 b3 b4 b5 b6 b7 : UInt8) (r : Bs) (bad : Bool) : ((rdN 8 (b0 :: b1 :: b2 :: b3 :: b4 :: b5 :: b6 :: b7 :: r, bad)).1 : Int) = 72057594037927936 * (b0.toNat : Int) + 281474976710656 * b1.toNat + 1099511627776 * b2.toNat + 4294967296 * b3.toNat + 16777216 * b4.toNat + 65536 * b5.toNat + 256 * b6.toNat + b7.toNat := by
  simp only [rdN, List.length_cons, if_neg (show ¬ r.length + 1 + 1 + 1 + 1 + 1 + 1 + 1 + 1 < 8 by omega), List.take_succ_cons, List.take_zero, be, List.foldl_cons, List.foldl_nil]
  omega
set_option maxHeartbeats 400000 in
set_option maxRecDepth 100000 in
theorem readu64_any {G : Nat → Prop} {b : Nat} {s : St} {w : World} (h : Rd w b G s) (hG : There G w) (hb : ¬ G b) :
    Calls Tryz.prog 223 #[.pointer (some ⟨b, 0, none⟩)] w fun e w' => e = .returned (.int .u64 ((rdN 8 s).1 : Int)) ∧ Rd w' b G (rdI 8 s).2 ∧ Keep [b] w w' := by
  obtain ⟨src, bad⟩ := s
  obtain ⟨v, hh, hr⟩ := h
  obtain ⟨ao, cap, rfl⟩ := RS.shape hr
  have c0 : w.cell? ⟨b, 0, none⟩ = some (.slice ao src.length cap) := cellOf hh 0 _ rfl
  have c1 : w.cell? ⟨b, 1, none⟩ = some (.bool bad) := cellOf hh 1 _ rfl
  have f0 := freeOf hh 0
  have f1 := freeOf hh 1
  go_enter Tryz.func223, Tryz.ntmps223
  by_cases hl : src.length < 8
  · go_wp2_with fail
    go_ret
    exact ⟨by simp [rdN, hl], ⟨.slice none 0 0, by simp only [rdI, rdN, hl, if_true]; exact heap_set (heap_set hh _) _, by simp only [rdI, rdN, hl, if_true]; exact RB.nil _ _⟩, ((Keep.refl _ _).setCell (.inl (by simp)) _).setCell (.inl (by simp)) _⟩
  · obtain ⟨b0, b1, b2, b3, b4, b5, b6, b7, r, rfl⟩ : ∃ b0 b1 b2 b3 b4 b5 b6 b7 r, src = b0 :: b1 :: b2 :: b3 :: b4 :: b5 :: b6 :: b7 :: r := by
      match src, hl with
      | b0 :: b1 :: b2 :: b3 :: b4 :: b5 :: b6 :: b7 :: r, _ => exact ⟨b0, b1, b2, b3, b4, b5, b6, b7, r, rfl⟩
      | [_, _, _, _, _, _, _], h => simp at h
      | [_, _, _, _, _, _], h => simp at h
      | [_, _, _, _, _], h => simp at h
      | [_, _, _, _], h => simp at h
      | [_, _, _], h => simp at h
      | [_, _], h => simp at h
      | [_], h => simp at h
      | [], h => simp at h
    have HH : Hid _ := hh
    clear hh
    have hS := c0
    go_wp2_with fail
    go_region_held3 (fun w' => w'.cell? ⟨b, 0, none⟩ = some (.slice ao (b0 :: b1 :: b2 :: b3 :: b4 :: b5 :: b6 :: b7 :: r).length cap)) (exact hS) (first
      | (go_at_call 230; refine (u64_any G _ ao _ cap b0 b1 b2 b3 b4 b5 b6 b7 r (hr.keepF (hG.same (Keep.refl _ _).drew) (fun _ h => h))).mono ?_; rintro e w2 ⟨rfl, hk2⟩; have kx : Keep [] w w2 := (Keep.refl _ _).drew.trans hk2; have hS := kx.cs c0))
    obtain ⟨bs, o, rfl, hGb, -, hcap, -⟩ := hr.spot (by simp)
    have hbw : b < w.heap.size := World.block_lt_of_cell? w _ c0
    have hh2 := (kx.block b hbw (by simp)).trans HH.out
    have d0 : w2.cell? ⟨b, 0, none⟩ = some (.slice (some ⟨bs, o, none⟩) (b0 :: b1 :: b2 :: b3 :: b4 :: b5 :: b6 :: b7 :: r).length cap) := cellOf hh2 0 _ rfl
    have e0 := freeOf hh2 0
    have HH2 : Hid _ := hh2
    clear hh2
    by_cases hcap : cap = 8
    · subst hcap
      go_wp2
      go_ret
      obtain ⟨q1, q2⟩ := rd_done (k := 8) (b := b) (v := .slice (some ⟨bs, o, none⟩) r.length 0) hG hb hr hl kx HH2.out (.inl ⟨by simp at hcap ⊢; omega, by simp at hcap ⊢; omega⟩)
      exact ⟨by rw [rdN_val]; rfl, q1, q2⟩
    · go_wp2
      go_ret
      obtain ⟨q1, q2⟩ := rd_done (k := 8) (b := b) (v := .slice (some ⟨bs, o + 8, none⟩) r.length (cap - 8)) hG hb hr hl kx HH2.out (.inr (by simp))
      exact ⟨by rw [rdN_val]; rfl, q1, q2⟩
set_option maxHeartbeats 400000 in
set_option maxRecDepth 100000 in
theorem int64_any {G : Nat → Prop} {b : Nat} {s : St} {w : World} (h : Rd w b G s) (hG : There G w) (hb : ¬ G b) :
    Calls Tryz.prog 198 #[.pointer (some ⟨b, 0, none⟩)] w fun e w' => e = .returned (.int .i64 (rdI 8 s).1) ∧ Rd w' b G (rdI 8 s).2 ∧ Keep [b] w w' := by
  have hw := rdI8_wrap s
  have hw2 : wrap64 ((rdN 8 s).1 : Int) = IntKind.i64.wrap ((rdN 8 s).1 : Int) := by rw [IntKind.wrap_i64]; unfold wrap64; omega
  go_enter Tryz.func198, Tryz.ntmps198
  go_wp2_with (go_at_call 223; go_loud (refine (readu64_any h hG hb).mono ?_; rintro e w1 ⟨rfl, h1, k1⟩))
  go_ret
  exact ⟨by rw [hw, ← hw2]; rfl, h1, k1⟩
end Go.Proofs.YtobbchmjgoaleaaGreatDoor
/-
  Reader.Bool, Int8, Ok.
-/
namespace Go.Proofs.YtobbchmjgoaleaaGreatDoor
open Go.ChangeShapes Go.WideShapes Go.ChangeAt Go.RowKit

def rdBool (s : St) : Bool × St := (((rdN 1 s).1 : Int) != 0, (rdN 1 s).2)
theorem i8_val (b0 : UInt8) (r : Bs) (bad : Bool) : (rdI 1 (b0 :: r, bad)).1 = IntKind.i8.wrap (b0.toNat : Int) := by
  have h0 : b0.toNat < 256 := b0.toNat_lt
  simp only [rdI, rdN, List.length_cons, if_neg (show ¬ r.length + 1 < 1 by omega), List.take_succ_cons, List.take_zero, be, List.foldl_cons, List.foldl_nil, sgn, wrap_i8']
  split <;> split <;> omega
theorem n8_val (b0 : UInt8) (r : Bs) (bad : Bool) : (rdN 1 (b0 :: r, bad)).1 = b0.toNat := by
  simp only [rdN, List.length_cons, if_neg (show ¬ r.length + 1 < 1 by omega), List.take_succ_cons, List.take_zero, be, List.foldl_cons, List.foldl_nil]
  omega
set_option maxHeartbeats 400000 in
set_option maxRecDepth 100000 in
theorem int8_any {G : Nat → Prop} {b : Nat} {s : St} {w : World} (h : Rd w b G s) (hG : There G w) (hb : ¬ G b) :
    Calls Tryz.prog 206 #[.pointer (some ⟨b, 0, none⟩)] w fun e w' => e = .returned (.int .i8 (rdI 1 s).1) ∧ Rd w' b G (rdI 1 s).2 ∧ Keep [b] w w' := by
  obtain ⟨src, bad⟩ := s
  obtain ⟨v, hh, hr⟩ := h
  obtain ⟨ao, cap, rfl⟩ := RS.shape hr
  have c0 : w.cell? ⟨b, 0, none⟩ = some (.slice ao src.length cap) := cellOf hh 0 _ rfl
  have c1 : w.cell? ⟨b, 1, none⟩ = some (.bool bad) := cellOf hh 1 _ rfl
  have f0 := freeOf hh 0
  have f1 := freeOf hh 1
  go_enter Tryz.func206, Tryz.ntmps206
  have HH : Hid _ := hh
  clear hh
  cases src with
  | nil =>
    go_wp2_with fail
    go_ret
    exact ⟨by simp [rdI, rdN, sgn], ⟨.slice none 0 0, by simp only [rdI, rdN, List.length_nil, Nat.lt_one_iff, if_true]; exact heap_set (heap_set HH.out _) _, by simp only [rdI, rdN, List.length_nil, Nat.lt_one_iff, if_true]; exact RB.nil _ _⟩, ((Keep.refl _ _).setCell (.inl (by simp)) _).setCell (.inl (by simp)) _⟩
  | cons b0 r =>
    obtain ⟨bs, o, rfl, hGb, -, hcap, hc⟩ := hr.spot (by simp)
    have g0 : w.cell? ⟨bs, o, none⟩ = some (.int .u8 b0.toNat) := hc 0 (by simp)
    clear hc
    by_cases h1 : cap = 1
    · subst h1
      go_wp2_with fail
      go_ret
      obtain ⟨q1, q2⟩ := rd_done (k := 1) (b := b) (v := .slice (some ⟨bs, o, none⟩) r.length 0) hG hb hr (by simp) (Keep.refl _ _) HH.out (.inl ⟨by simp at hcap ⊢; omega, by simp at hcap ⊢; omega⟩)
      exact ⟨by simp [i8_val], q1, q2⟩
    · go_wp2_with fail
      go_ret
      obtain ⟨q1, q2⟩ := rd_done (k := 1) (b := b) (v := .slice (some ⟨bs, o + 1, none⟩) r.length (cap - 1)) hG hb hr (by simp) (Keep.refl _ _) HH.out (.inr (by simp))
      exact ⟨by simp [i8_val], q1, q2⟩
set_option maxHeartbeats 400000 in
set_option maxRecDepth 100000 in
theorem bool_any {G : Nat → Prop} {b : Nat} {s : St} {w : World} (h : Rd w b G s) (hG : There G w) (hb : ¬ G b) :
    Calls Tryz.prog 199 #[.pointer (some ⟨b, 0, none⟩)] w fun e w' => e = .returned (.bool (rdBool s).1) ∧ Rd w' b G (rdBool s).2 ∧ Keep [b] w w' := by
  obtain ⟨src, bad⟩ := s
  obtain ⟨v, hh, hr⟩ := h
  obtain ⟨ao, cap, rfl⟩ := RS.shape hr
  have c0 : w.cell? ⟨b, 0, none⟩ = some (.slice ao src.length cap) := cellOf hh 0 _ rfl
  have c1 : w.cell? ⟨b, 1, none⟩ = some (.bool bad) := cellOf hh 1 _ rfl
  have f0 := freeOf hh 0
  have f1 := freeOf hh 1
  go_enter Tryz.func199, Tryz.ntmps199
  have HH : Hid _ := hh
  clear hh
  cases src with
  | nil =>
    go_wp2_with fail
    go_ret
    exact ⟨by simp [rdBool, rdN], ⟨.slice none 0 0, by simp only [rdBool, rdN, List.length_nil, Nat.lt_one_iff, if_true]; exact heap_set (heap_set HH.out _) _, by simp only [rdBool, rdN, List.length_nil, Nat.lt_one_iff, if_true]; exact RB.nil _ _⟩, ((Keep.refl _ _).setCell (.inl (by simp)) _).setCell (.inl (by simp)) _⟩
  | cons b0 r =>
    obtain ⟨bs, o, rfl, hGb, -, hcap, hc⟩ := hr.spot (by simp)
    have g0 : w.cell? ⟨bs, o, none⟩ = some (.int .u8 b0.toNat) := hc 0 (by simp)
    clear hc
    by_cases h1 : cap = 1
    · subst h1
      go_wp2_with fail
      go_ret
      obtain ⟨q1, q2⟩ := rd_done (k := 1) (b := b) (v := .slice (some ⟨bs, o, none⟩) r.length 0) hG hb hr (by simp) (Keep.refl _ _) HH.out (.inl ⟨by simp at hcap ⊢; omega, by simp at hcap ⊢; omega⟩)
      exact ⟨by simp [rdBool, n8_val], q1, q2⟩
    · go_wp2_with fail
      go_ret
      obtain ⟨q1, q2⟩ := rd_done (k := 1) (b := b) (v := .slice (some ⟨bs, o + 1, none⟩) r.length (cap - 1)) hG hb hr (by simp) (Keep.refl _ _) HH.out (.inr (by simp))
      exact ⟨by simp [rdBool, n8_val], q1, q2⟩
end Go.Proofs.YtobbchmjgoaleaaGreatDoor
/-
  Reader.NullableString, CompactNullableString, each both ways.
-/
namespace Go.Proofs.YtobbchmjgoaleaaGreatDoor
open Go.ChangeShapes Go.WideShapes Go.ChangeAt Go.RowKit

/-- a text in a box of its own -/
theorem ps_box {G : Nat → Prop} {b : Nat} {s : St} {w w2 : World} {l : Bs} (h : Rd w2 b G s) (hb : b < w2.heap.size) (hG : There G w2) (k : Keep [b] w w2) :
    PS (w2.alloc (.cells #[str l] 9)) (fun k => w.heap.size ≤ k ∧ k < (w2.alloc (.cells #[str l] 9)).heap.size) (.pointer (some ⟨w2.heap.size, 0, none⟩)) (some l) ∧ Rd (w2.alloc (.cells #[str l] 9)) b G s ∧ Keep [b] w (w2.alloc (.cells #[str l] 9)) := by
  refine ⟨.inr ⟨_, l, rfl, rfl, ⟨k.size, by simp⟩, heap_alloc_new _ _⟩, ?_, k.alloc _⟩
  obtain ⟨v, h1, h2⟩ := h
  exact ⟨v, ((keep_box (A := []) _).block b hb (by simp)).trans h1, h2.keepF (hG.same (keep_box _)) (fun _ h => h)⟩
theorem Rd.lt {w : World} {b : Nat} {G : Nat → Prop} {s : St} (h : Rd w b G s) : b < w.heap.size := by
  obtain ⟨v, h1, _⟩ := h
  exact (Array.getElem?_eq_some_iff.1 h1).1
set_option maxHeartbeats 400000 in
set_option maxRecDepth 100000 in
theorem nstring_any {G : Nat → Prop} {b : Nat} {s : St} {w : World} (h : Rd w b G s) (hG : There G w) (hb : ¬ G b) :
    Calls Tryz.prog 186 #[.pointer (some ⟨b, 0, none⟩)] w fun e w' => ∃ v, e = .returned v ∧ PS w' (fun k => w.heap.size ≤ k ∧ k < w'.heap.size) v (rdNStr s).1 ∧ Rd w' b G (rdNStr s).2 ∧ Keep [b] w w' := by
  have hR1 : -32768 ≤ (rdI 2 s).1 := (rdI_range2 _).1
  have hR2 : (rdI 2 s).1 ≤ 32767 := (rdI_range2 _).2
  by_cases hc : (rdI 2 s).1 < 0
  · go_enter Tryz.func186, Tryz.ntmps186
    go_wp2_with (go_at_call 182; go_loud (refine (int16_any h hG hb).mono ?_; rintro e w1 ⟨rfl, h1, k1⟩))
    go_ret
    exact ⟨_, rfl, by simp only [rdNStr, if_pos hc]; exact .inl ⟨rfl, rfl⟩, by simp only [rdNStr, if_pos hc]; exact h1, k1⟩
  · have E : Hid (rdNStr s = (some (rdStr s).1, (rdStr s).2)) := (by unfold rdNStr; rw [if_neg hc] : rdNStr s = (some (rdStr s).1, (rdStr s).2))
    go_enter Tryz.func186, Tryz.ntmps186
    go_wp2_with (first
    | (go_at_call 182; go_loud (refine (int16_any h hG hb).mono ?_; rintro e w1 ⟨rfl, h1, k1⟩))
    | (go_at_call 218; go_loud (refine (span_any h1 hb).mono ?_; rintro e w2 ⟨v, rfl, hv, h2, k2⟩; obtain ⟨ao, cap, rfl⟩ := RS.shape hv; have hcv := conv_any hv; unfold str at hcv)))
    go_ret
    rw [E.out]
    have kk := k1.trans k2
    exact ⟨_, rfl, ps_box h2 h2.lt (hG.mono kk.size) kk⟩
set_option maxHeartbeats 400000 in
set_option maxRecDepth 100000 in
theorem unstring_any {G : Nat → Prop} {b : Nat} {s : St} {w : World} (h : Rd w b G s) (hG : There G w) (hb : ¬ G b) :
    Calls Tryz.prog 185 #[.pointer (some ⟨b, 0, none⟩)] w fun e w' => ∃ v, e = .returned v ∧ PS w' (fun k => w.heap.size ≤ k ∧ k < w'.heap.size) v (rdNStr s).1 ∧ Rd w' b G (rdNStr s).2 ∧ Keep [b] w w' := by
  have hR1 : -32768 ≤ (rdI 2 s).1 := (rdI_range2 _).1
  have hR2 : (rdI 2 s).1 ≤ 32767 := (rdI_range2 _).2
  by_cases hc : (rdI 2 s).1 < 0
  · go_enter Tryz.func185, Tryz.ntmps185
    go_wp2_with (go_at_call 182; go_loud (refine (int16_any h hG hb).mono ?_; rintro e w1 ⟨rfl, h1, k1⟩))
    go_ret
    exact ⟨_, rfl, by simp only [rdNStr, if_pos hc]; exact .inl ⟨rfl, rfl⟩, by simp only [rdNStr, if_pos hc]; exact h1, k1⟩
  · have E : Hid (rdNStr s = (some (rdStr s).1, (rdStr s).2)) := (by unfold rdNStr; rw [if_neg hc] : rdNStr s = (some (rdStr s).1, (rdStr s).2))
    go_enter Tryz.func185, Tryz.ntmps185
    go_wp2_with (first
    | (go_at_call 182; go_loud (refine (int16_any h hG hb).mono ?_; rintro e w1 ⟨rfl, h1, k1⟩))
    | (go_at_call 218; go_loud (refine (span_any h1 hb).mono ?_; rintro e w2 ⟨v, rfl, hv, h2, k2⟩; obtain ⟨ao, cap, rfl⟩ := RS.shape hv; have huv := unsafestr_any hv; unfold str at huv))
    | (go_at_call 217; go_loud (refine huv.mono ?_; rintro e w3 ⟨rfl, rfl⟩)))
    go_ret
    rw [E.out]
    have kk := k1.trans k2
    exact ⟨_, rfl, ps_box h2 h2.lt (hG.mono kk.size) kk⟩
set_option maxHeartbeats 400000 in
set_option maxRecDepth 100000 in
theorem cnstring_any {G : Nat → Prop} {b : Nat} {s : St} {w : World} (h : Rd w b G s) (hG : There G w) (hb : ¬ G b) :
    Calls Tryz.prog 184 #[.pointer (some ⟨b, 0, none⟩)] w fun e w' => ∃ v, e = .returned v ∧ PS w' (fun k => w.heap.size ≤ k ∧ k < w'.heap.size) v (rdCNStr s).1 ∧ Rd w' b G (rdCNStr s).2 ∧ Keep [b] w w' := by
  have hR2 : (rdUv s).1 < 4294967296 := rdUv_lt s
  by_cases hc : (rdUv s).1 = 0
  · go_enter Tryz.func184, Tryz.ntmps184
    go_wp2_with (go_at_call 216; go_loud (refine (rduv_any h hG hb).mono ?_; rintro e w1 ⟨rfl, h1, k1⟩))
    go_ret
    exact ⟨_, rfl, by simp only [rdCNStr, if_pos hc]; exact .inl ⟨rfl, rfl⟩, by simp only [rdCNStr, if_pos hc]; exact h1, k1⟩
  · have E : Hid (rdCNStr s = (some (rdCStr s).1, (rdCStr s).2)) := (by unfold rdCNStr; rw [if_neg hc] : rdCNStr s = (some (rdCStr s).1, (rdCStr s).2))
    go_enter Tryz.func184, Tryz.ntmps184
    go_wp2_with (first
    | (go_at_call 216; go_loud (refine (rduv_any h hG hb).mono ?_; rintro e w1 ⟨rfl, h1, k1⟩))
    | (go_at_call 218; go_loud (refine (span_any h1 hb).mono ?_; rintro e w2 ⟨v, rfl, hv, h2, k2⟩; obtain ⟨ao, cap, rfl⟩ := RS.shape hv; have hcv := conv_any hv; unfold str at hcv)))
    go_ret
    rw [E.out]
    have kk := k1.trans k2
    exact ⟨_, rfl, ps_box h2 h2.lt (hG.mono kk.size) kk⟩
set_option maxHeartbeats 400000 in
set_option maxRecDepth 100000 in
theorem ucnstring_any {G : Nat → Prop} {b : Nat} {s : St} {w : World} (h : Rd w b G s) (hG : There G w) (hb : ¬ G b) :
    Calls Tryz.prog 183 #[.pointer (some ⟨b, 0, none⟩)] w fun e w' => ∃ v, e = .returned v ∧ PS w' (fun k => w.heap.size ≤ k ∧ k < w'.heap.size) v (rdCNStr s).1 ∧ Rd w' b G (rdCNStr s).2 ∧ Keep [b] w w' := by
  have hR2 : (rdUv s).1 < 4294967296 := rdUv_lt s
  by_cases hc : (rdUv s).1 = 0
  · go_enter Tryz.func183, Tryz.ntmps183
    go_wp2_with (go_at_call 216; go_loud (refine (rduv_any h hG hb).mono ?_; rintro e w1 ⟨rfl, h1, k1⟩))
    go_ret
    exact ⟨_, rfl, by simp only [rdCNStr, if_pos hc]; exact .inl ⟨rfl, rfl⟩, by simp only [rdCNStr, if_pos hc]; exact h1, k1⟩
  · have E : Hid (rdCNStr s = (some (rdCStr s).1, (rdCStr s).2)) := (by unfold rdCNStr; rw [if_neg hc] : rdCNStr s = (some (rdCStr s).1, (rdCStr s).2))
    go_enter Tryz.func183, Tryz.ntmps183
    go_wp2_with (first
    | (go_at_call 216; go_loud (refine (rduv_any h hG hb).mono ?_; rintro e w1 ⟨rfl, h1, k1⟩))
    | (go_at_call 218; go_loud (refine (span_any h1 hb).mono ?_; rintro e w2 ⟨v, rfl, hv, h2, k2⟩; obtain ⟨ao, cap, rfl⟩ := RS.shape hv; have huv := unsafestr_any hv; unfold str at huv))
    | (go_at_call 217; go_loud (refine huv.mono ?_; rintro e w3 ⟨rfl, rfl⟩)))
    go_ret
    rw [E.out]
    have kk := k1.trans k2
    exact ⟨_, rfl, ps_box h2 h2.lt (hG.mono kk.size) kk⟩
end Go.Proofs.YtobbchmjgoaleaaGreatDoor
/-
  HOW FAR A MESSAGE HAS BEEN READ: the reader, the message's block, and what stays.
-/
namespace Go.Proofs.YtobbchmjgoaleaaGreatDoor
open Go.ChangeShapes Go.WideShapes Go.ChangeAt Go.RowKit

theorem World.heap_lt {w : World} {b : Nat} {o : Obj} (h : w.heap[b]? = some o) : b < w.heap.size := (Array.getElem?_eq_some_iff.1 h).1
/-- the call began in w; the reader's block is new -/
structure RdSt (w U : World) (b rb : Nat) (G : Nat → Prop) (s : St) (arr : Array Value) (t : TypeId) : Prop where
  rd : Rd U rb G s
  blk : U.heap[b]? = some (.cells arr t (0, 0))
  keep : Keep [b] w U
  there : There G w
  nb : ¬ G b
  lt : b < w.heap.size
  new : w.heap.size ≤ rb
namespace RdSt
variable {w U U' : World} {b rb j : Nat} {G : Nat → Prop} {s s' : St} {arr : Array Value} {t : TypeId} {v : Value}
theorem hG (h : RdSt w U b rb G s arr t) : There G U := h.there.mono h.keep.size
theorem nrb (h : RdSt w U b rb G s arr t) : ¬ G rb := fun e => by have := h.there _ e; have := h.new; omega
theorem call (h : RdSt w U b rb G s arr t) (r : Rd U' rb G s') (k : Keep [rb] U U') : RdSt w U' b rb G s' arr t := by
  have hn := h.new
  have hl := h.lt
  have hs := h.keep.size
  refine ⟨r, (k.block b (by omega) (by simp; omega)).trans h.blk, ?_, h.there, h.nb, hl, hn⟩
  exact ((h.keep.weaken (B := [b, rb]) (by simp)).trans (k.weaken (by simp))).fresh (by simp; omega)
theorem calm (h : RdSt w U b rb G s arr t) (k : Keep [] U U') : RdSt w U' b rb G s arr t := by
  have hl := h.lt
  have hs := h.keep.size
  exact ⟨h.rd.keepW h.hG h.rd.lt' k, (k.block b (by omega) (by simp)).trans h.blk, h.keep.trans (k.weaken (by simp)), h.there, h.nb, hl, h.new⟩
theorem set (h : RdSt w U b rb G s arr t) (j : Nat) (v : Value) : RdSt w (U.setCell ⟨b, j, none⟩ v) b rb G s (arr.setIfInBounds j v) t := by
  have hn := h.new
  have hl := h.lt
  have k : Keep [b] U (U.setCell ⟨b, j, none⟩ v) := (Keep.refl _ _).setCell (.inl (by simp)) _
  refine ⟨h.rd.keepA h.hG h.rd.lt' k (by intro i hi; simp at hi; subst hi; exact h.nb) (by simp; omega), heap_set h.blk v, h.keep.trans k, h.there, h.nb, hl, hn⟩
theorem cell (h : RdSt w U b rb G s arr t) (j : Nat) (v : Value) (hv : arr[j]? = some v) : U.cell? ⟨b, j, none⟩ = some v := cellOf h.blk j v hv
theorem free (h : RdSt w U b rb G s arr t) (j : Nat) : U.frozen? ⟨b, j, none⟩ = false := freeOf h.blk j
theorem mp {W Z : World} {v : Value} {l : List Tg} (h : RdSt w U b rb G s arr t) (m : MP W (New G U W) v l) (k : Keep [b] W Z) : MP Z (New G w Z) v l := by
  have hl := h.lt
  have hu := h.keep.size
  have hz := k.size
  refine m.keepF (fun i hi => k.block i hi.2 ?_) (fun i hi => ⟨hi.1.imp id (fun e => by omega), by have := hi.2; omega⟩)
  simp
  rintro rfl
  rcases hi.1 with e | e
  · exact h.nb e
  · omega
theorem ps {W Z : World} {v : Value} {o : Option Bs} (h : RdSt w U b rb G s arr t) (m : PS W (fun k => U.heap.size ≤ k ∧ k < W.heap.size) v o) (k : Keep [b, rb] W Z) : PS Z (New G w Z) v o := by
  have hl := h.lt
  have hu := h.keep.size
  have hz := k.size
  have hr := h.rd.lt'
  exact m.keepF (fun i hi => k.block i hi.2 (by have := hi.1; simp; omega)) (fun i hi => ⟨.inr (by have := hi.1; omega), by have := hi.2; omega⟩)
end RdSt
theorem PS.shape {w : World} {G : Nat → Prop} {v : Value} {o : Option Bs} (h : PS w G v o) : ∃ a, v = .pointer a := by
  rcases h with ⟨rfl, _⟩ | ⟨k, l, rfl, _⟩
  · exact ⟨_, rfl⟩
  · exact ⟨_, rfl⟩
end Go.Proofs.YtobbchmjgoaleaaGreatDoor
/-
  Reader.CompactNullableBytes, with what is nil and what is not.
-/
namespace Go.Proofs.YtobbchmjgoaleaaGreatDoor
open Go.ChangeShapes Go.WideShapes Go.ChangeAt Go.RowKit

/-- the reader's octets are no nil slice -/
def SrcSome (w : World) (b : Nat) : Prop := ∃ a n c bd, w.heap[b]? = some (.cells #[.slice (some a) n c, bd] 175 (0, 0))
set_option maxHeartbeats 400000 in
set_option maxRecDepth 100000 in
theorem rduv_some {G : Nat → Prop} {b : Nat} {s : St} {w : World} (h : Rd w b G s) (_hG : There G w) (hb : ¬ G b) :
    Calls Tryz.prog 216 #[.pointer (some ⟨b, 0, none⟩)] w fun e w' => e = .returned (.int .u32 ((rdUv s).1 : Int)) ∧ Rd w' b G (rdUv s).2 ∧ Keep [b] w w' ∧ ((rdUv s).2.2 = false → SrcSome w' b) := by
  obtain ⟨src, bad⟩ := s
  obtain ⟨v, hh, hr⟩ := h
  obtain ⟨ao, cap, rfl⟩ := RS.shape hr
  have c0 : w.cell? ⟨b, 0, none⟩ = some (.slice ao src.length cap) := cellOf hh 0 _ rfl
  have c1 : w.cell? ⟨b, 1, none⟩ = some (.bool bad) := cellOf hh 1 _ rfl
  have f0 := freeOf hh 0
  have f1 := freeOf hh 1
  obtain ⟨hp1, hp2, hp3⟩ := uvP_lt src
  have UV := uvarint_any hr
  go_enter Tryz.func216, Tryz.ntmps216
  have HH : Hid _ := hh
  clear hh
  generalize hu : uvP src = u at *
  obtain ⟨val, n⟩ := u
  have HU : Hid _ := hu
  simp only at hp1 hp2 hp3 UV
  by_cases hn : n ≤ 0
  · go_wp2_with (go_at_call 224; refine UV.mono ?_; rintro e w1 ⟨rfl, rfl⟩)
    go_ret
    have e : rdUv (src, bad) = (0, ([], true)) := by unfold rdUv; simp only [HU.out, hn, if_true]
    exact ⟨by rw [e]; rfl, ⟨.slice none 0 0, by rw [e]; exact heap_set (heap_set HH.out _) _, by rw [e]; exact RB.nil _ _⟩, ((Keep.refl _ _).setCell (.inl (by simp)) _).setCell (.inl (by simp)) _, fun h => by rw [e] at h; cases h⟩
  · obtain ⟨m, rfl⟩ := Int.eq_ofNat_of_zero_le (show 0 ≤ n by omega)
    have e : rdUv (src, bad) = (val, (src.drop m, bad)) := by unfold rdUv; simp only [HU.out, if_neg hn]; simp
    have hpos : 0 < src.length := by omega
    obtain ⟨bs, o, rfl, hGb, -, hcap, -⟩ := hr.spot hpos
    have E : Hid _ := e
    clear e
    have hs : ∀ x, SameOn G w (w.setCell ⟨b, 0, none⟩ x) := fun x k hk => Below.heap_setCell _ _ _ _ (fun e => hb (by simp only at e; rw [← e]; exact hk))
    by_cases hm : m = cap
    · subst hm
      go_wp2_with (go_at_call 224; refine UV.mono ?_; rintro e w1 ⟨rfl, rfl⟩)
      refine bodyPost_ret (v := .int .u32 (val : Int)) (by simp [results, Tryz.results216, go_sem]) rfl ⟨by rw [E.out], ⟨.slice (some ⟨bs, o, none⟩) 0 0, ?_, ?_⟩, (Keep.refl _ _).setCell (.inl (by simp)) _, fun _ => ⟨_, _, _, _, heap_set HH.out _⟩⟩
      · rw [E.out]
        have hl0 : src.length - m = 0 := by omega
        exact heap_set HH.out _
      · rw [E.out]
        have hl : src.drop m = [] := List.drop_eq_nil_of_le (by omega)
        simp only [hl]
        exact RB.none0 _ _ _ _ _
    · go_wp2_with (go_at_call 224; refine UV.mono ?_; rintro e w1 ⟨rfl, rfl⟩)
      refine bodyPost_ret (v := .int .u32 (val : Int)) (by simp [results, Tryz.results216, go_sem]) rfl ⟨by rw [E.out], ⟨.slice (some ⟨bs, o + m, none⟩) (src.length - m) (cap - m), ?_, ?_⟩, (Keep.refl _ _).setCell (.inl (by simp)) _, fun _ => ⟨_, _, _, _, heap_set HH.out _⟩⟩
      · rw [E.out]
        exact heap_set HH.out _
      · rw [E.out]
        exact (hr.drop m _ _ (by omega) rfl rfl).keepF (hs _) (fun _ h => h)
set_option maxHeartbeats 400000 in
set_option maxRecDepth 100000 in
theorem span_some {G : Nat → Prop} {b : Nat} {s : St} {w : World} {n : Int} (h : Rd w b G s) (hb : ¬ G b) (hsm : s.2 = false → SrcSome w b) :
    Calls Tryz.prog 218 #[.pointer (some ⟨b, 0, none⟩), .int .i64 n] w fun e w' => ∃ v, e = .returned v ∧ RB w' G v (rdSpan n s).1 ∧ Rd w' b G (rdSpan n s).2 ∧ Keep [b] w w' ∧ ((rdSpan n s).2.2 = false → v ≠ .slice none 0 0) := by
  obtain ⟨src, bad⟩ := s
  obtain ⟨v, hh, hr⟩ := h
  obtain ⟨ao, cap, rfl⟩ := RS.shape hr
  have c0 : w.cell? ⟨b, 0, none⟩ = some (.slice ao src.length cap) := cellOf hh 0 _ rfl
  have c1 : w.cell? ⟨b, 1, none⟩ = some (.bool bad) := cellOf hh 1 _ rfl
  have f0 := freeOf hh 0
  have f1 := freeOf hh 1
  have HH : Hid _ := hh
  clear hh
  go_enter Tryz.func218, Tryz.ntmps218
  have hcap : src.length ≤ cap := by
    obtain ⟨_, _, e, h, _⟩ := hr
    cases e
    exact h
  by_cases h1 : (src.length : Int) < n
  · go_wp2_with fail
    go_ret
    exact ⟨_, rfl, by simp only [rdSpan, h1, true_or, if_true]; exact RB.nil _ _, ⟨.slice none 0 0, by simp only [rdSpan, h1, true_or, if_true]; exact heap_set (heap_set HH.out _) _, by simp only [rdSpan, h1, true_or, if_true]; exact RB.nil _ _⟩, ((Keep.refl _ _).setCell (.inl (by simp)) _).setCell (.inl (by simp)) _, fun h => by simp [rdSpan, h1] at h⟩
  by_cases h2 : n < 0
  · go_wp2_with fail
    go_ret
    exact ⟨_, rfl, by simp only [rdSpan, h2, or_true, if_true]; exact RB.nil _ _, ⟨.slice none 0 0, by simp only [rdSpan, h2, or_true, if_true]; exact heap_set (heap_set HH.out _) _, by simp only [rdSpan, h2, or_true, if_true]; exact RB.nil _ _⟩, ((Keep.refl _ _).setCell (.inl (by simp)) _).setCell (.inl (by simp)) _, fun h => by simp [rdSpan, h2] at h⟩
  obtain ⟨m, rfl⟩ := Int.eq_ofNat_of_zero_le (Int.not_lt.1 h2)
  have h3 : m ≤ src.length := by omega
  have e : rdSpan (m : Int) (src, bad) = (src.take m, (src.drop m, bad)) := by
    unfold rdSpan
    rw [if_neg (by simp only; omega)]
    simp
  have E : Hid _ := e
  clear e h1 h2
  cases ao with
  | none =>
    have hn : src = [] ∧ cap = 0 := by
      obtain ⟨_, _, e, _, h, _⟩ := hr
      cases e
      exact ⟨List.eq_nil_of_length_eq_zero (h rfl).1, (h rfl).2.1⟩
    obtain ⟨rfl, rfl⟩ := hn
    obtain rfl : m = 0 := by simpa using h3
    go_wp2_with fail
    go_ret
    have e := E.out
    simp only [List.take_nil, List.drop_nil] at e
    exact ⟨_, rfl, by rw [show rdSpan 0 ([], bad) = _ from e]; exact RB.nil _ _, ⟨.slice none 0 0, by rw [show rdSpan 0 ([], bad) = _ from e]; exact heap_set HH.out _, by rw [show rdSpan 0 ([], bad) = _ from e]; exact RB.nil _ _⟩, (Keep.refl _ _).setCell (.inl (by simp)) _, fun h => by
      rw [show rdSpan 0 ([], bad) = _ from e] at h
      obtain ⟨a, n, c, bd, h4⟩ := hsm h
      rw [HH.out] at h4
      cases h4⟩
  | some a =>
    obtain ⟨bs, o, sp⟩ := a
    have hsp : 0 < src.length → sp = none := by
      obtain ⟨_, _, e, _, _, h⟩ := hr
      cases e
      exact fun h0 => (h _ rfl).1 (by simpa using h0)
    cases sp with
    | some s =>
      have h0 : src = [] := List.eq_nil_of_length_eq_zero (Nat.eq_zero_of_not_pos fun h0 => by cases hsp h0)
      subst h0
      obtain rfl : m = 0 := by simpa using h3
      have e := E.out
      simp only [List.take_nil, List.drop_nil] at e
      have e2 : Hid _ := e
      clear e
      by_cases hc : 0 = cap
      · subst hc
        go_wp2_with fail
        refine bodyPost_ret (v := .slice (some ⟨bs, o, some s⟩) 0 0) (by simp [results, Tryz.results218, go_sem]) rfl ⟨_, rfl, ?_, ⟨.slice (some ⟨bs, o, some s⟩) 0 0, ?_, ?_⟩, (Keep.refl _ _).setCell (.inl (by simp)) _, fun _ h => by cases h⟩
        · rw [show rdSpan 0 ([], bad) = _ from e2.out]; exact RB.empty _ _ _ _
        · rw [show rdSpan 0 ([], bad) = _ from e2.out]; exact heap_set HH.out _
        · rw [show rdSpan 0 ([], bad) = _ from e2.out]; exact RB.empty _ _ _ _
      · go_wp2_with fail
        refine bodyPost_ret (v := .slice (some ⟨bs, o, some s⟩) 0 0) (by simp [results, Tryz.results218, go_sem]) rfl ⟨_, rfl, ?_, ⟨.slice (some ⟨bs, o, some s⟩) 0 cap, ?_, ?_⟩, (Keep.refl _ _).setCell (.inl (by simp)) _, fun _ h => by cases h⟩
        · rw [show rdSpan 0 ([], bad) = _ from e2.out]; exact RB.empty _ _ _ _
        · rw [show rdSpan 0 ([], bad) = _ from e2.out]; exact heap_set HH.out _
        · rw [show rdSpan 0 ([], bad) = _ from e2.out]; exact RB.empty _ _ _ _
    | none =>
    have hs : ∀ x, SameOn G w (w.setCell ⟨b, 0, none⟩ x) := fun x k hk => Below.heap_setCell _ _ _ _ (fun e => hb (by simp only at e; rw [← e]; exact hk))
    by_cases hc : m = cap
    · subst hc
      have hl : src.drop m = [] := List.drop_eq_nil_of_le hcap
      have hl2 : src.length - m = 0 := by omega
      go_wp2_with fail
      refine bodyPost_ret (v := .slice (some ⟨bs, o, none⟩) m m) (by simp [results, Tryz.results218, go_sem]) rfl ⟨_, rfl, ?_, ⟨.slice (some ⟨bs, o, none⟩) 0 0, ?_, ?_⟩, (Keep.refl _ _).setCell (.inl (by simp)) _, fun _ h => by cases h⟩
      · rw [E.out]; exact (hr.cut m h3).keepF (hs _) (fun _ h => h)
      · rw [E.out]; exact heap_set HH.out _
      · rw [E.out]; simp only [hl]; exact RB.none0 _ _ _ _ _
    · go_wp2_with fail
      refine bodyPost_ret (v := .slice (some ⟨bs, o, none⟩) m m) (by simp [results, Tryz.results218, go_sem]) rfl ⟨_, rfl, ?_, ⟨.slice (some ⟨bs, o + m, none⟩) (src.length - m) (cap - m), ?_, ?_⟩, (Keep.refl _ _).setCell (.inl (by simp)) _, fun _ h => by cases h⟩
      · rw [E.out]; exact (hr.cut m h3).keepF (hs _) (fun _ h => h)
      · rw [E.out]; exact heap_set HH.out _
      · rw [E.out]; exact (hr.drop m _ _ h3 rfl rfl).keepF (hs _) (fun _ h => h)
def rdCNB (s : St) : Option Bs × St := if (rdUv s).1 = 0 then (none, (rdUv s).2) else (some (rdSpan ((rdUv s).1 - 1) (rdUv s).2).1, (rdSpan ((rdUv s).1 - 1) (rdUv s).2).2)
/-- octets, or nil -/
def OS (w : World) (G : Nat → Prop) (v : Value) (o : Option Bs) : Prop := RB w G v (o.getD []) ∧ (v = .slice none 0 0 ↔ o = none)
end Go.Proofs.YtobbchmjgoaleaaGreatDoor
/-
  How many tags may be read of so many octets, and how long they may be. Plain lemmas.
-/
namespace Go.Proofs.YtobbchmjgoaleaaGreatDoor

theorem rdUv_len (s : St) : (rdUv s).2.1.length ≤ s.1.length ∧ ((rdUv s).1 ≠ 0 → (rdUv s).2.1.length + 1 ≤ s.1.length) := by
  have h := uvP_lt s.1
  unfold rdUv
  split
  · simp
  · rename_i hn
    simp only [List.length_drop]
    omega
theorem rdSpan_len (n : Int) (s : St) : (rdSpan n s).1.length ≤ s.1.length ∧ (rdSpan n s).2.1.length ≤ s.1.length := by
  unfold rdSpan
  split
  · simp
  · simp only [List.length_take, List.length_drop]
    omega
theorem insK_perm {α : Type} (x : Nat × α) : ∀ l : List (Nat × α), (insK x l).Perm (x :: l)
  | [] => List.Perm.refl _
  | y :: r => by
    unfold insK
    split
    · exact List.Perm.refl _
    · exact ((insK_perm x r).cons y).trans (List.Perm.swap x y r)
/-- the tags but for that of the number nought -/
def n0 (l : List Tg) : Nat := (l.filter fun x => decide (x.1 ≠ 0)).length
theorem n0_put (l : List Tg) (k : Nat) (x : Bs) : n0 (putK l k x) ≤ n0 l + (if k = 0 then 0 else 1) := by
  unfold n0 putK
  have h := ((insK_perm (k, x) (l.filter fun y => decide (y.1 ≠ k))).filter fun x => decide (x.1 ≠ 0)).length_eq
  rw [h, List.filter_cons]
  have hs : ((l.filter fun y => decide (y.1 ≠ k)).filter fun x => decide (x.1 ≠ 0)).length ≤ (l.filter fun x => decide (x.1 ≠ 0)).length := ((List.filter_sublist).filter _).length_le
  by_cases hk : k = 0
  · rw [if_neg (by simp [hk]), if_pos hk]
    exact Nat.le_trans hs (Nat.le_add_right _ _)
  · rw [if_pos (by simp [hk]), if_neg hk, List.length_cons]
    exact Nat.succ_le_succ hs
theorem n0_rising : ∀ {l : List Tg}, Rising l → l.length ≤ n0 l + 1
  | [], _ => by simp
  | y :: r, h => by
    obtain ⟨h1, _⟩ := List.pairwise_cons.1 h
    have e : r.filter (fun x => decide (x.1 ≠ 0)) = r := List.filter_eq_self.2 fun x hx => by have := h1 x hx; simp; omega
    unfold n0
    rw [List.filter_cons, e]
    split
    · simp
    · simp
theorem rdTagsN_len (B : Nat) : ∀ (n : Nat) (s : St) (l : List Tg), Rising l → (∀ x ∈ l, x.2.length ≤ B) → s.1.length ≤ B →
    n0 (rdTagsN n s l).1 ≤ n0 l + s.1.length ∧ Rising (rdTagsN n s l).1 ∧ ∀ x ∈ (rdTagsN n s l).1, x.2.length ≤ B
  | 0, s, l, h1, h2, _ => ⟨by simp [rdTagsN], h1, h2⟩
  | n + 1, s, l, h1, h2, h3 => by
    have a := rdUv_len s
    have b := rdUv_len (rdUv s).2
    have c := rdSpan_len ((rdUv (rdUv s).2).1 : Int) (rdUv (rdUv s).2).2
    have p := n0_put l (rdUv s).1 (rdSpan ((rdUv (rdUv s).2).1 : Int) (rdUv (rdUv s).2).2).1
    have ih := rdTagsN_len B n (rdSpan ((rdUv (rdUv s).2).1 : Int) (rdUv (rdUv s).2).2).2 (putK l (rdUv s).1 (rdSpan ((rdUv (rdUv s).2).1 : Int) (rdUv (rdUv s).2).2).1) (rising_putK h1 _ _)
      (fun x hx => by
        rcases mem_putK hx with rfl | hx
        · simp only; omega
        · exact h2 x hx) (by omega)
    simp only [rdTagsN]
    refine ⟨?_, ih.2⟩
    have := ih.1
    by_cases hk : (rdUv s).1 = 0
    · rw [if_pos hk] at p; omega
    · rw [if_neg hk] at p; have := a.2 hk; omega
theorem rdTags_len (s : St) : (rdTags s).1.length ≤ s.1.length + 1 ∧ ∀ x ∈ (rdTags s).1, x.2.length ≤ s.1.length := by
  have a := rdUv_len s
  have h := rdTagsN_len s.1.length (rdUv s).1 (rdUv s).2 [] rising_nil (by simp) a.1
  have r := n0_rising h.2.1
  refine ⟨?_, h.2.2⟩
  have := h.1
  have z : n0 [] = 0 := rfl
  show (rdTagsN (rdUv s).1 (rdUv s).2 []).1.length ≤ _
  omega
theorem rdN_len (k : Nat) (s : St) : (rdN k s).2.1.length ≤ s.1.length := by
  unfold rdN
  split
  · simp
  · simp
theorem rdI_len (k : Nat) (s : St) : (rdI k s).2.1.length ≤ s.1.length := rdN_len k s
theorem rdStr_len (s : St) : (rdStr s).1.length ≤ s.1.length ∧ (rdStr s).2.1.length ≤ s.1.length := by
  have a := rdI_len 2 s
  have b := rdSpan_len (rdI 2 s).1 (rdI 2 s).2
  unfold rdStr
  omega
theorem rdCStr_len (s : St) : (rdCStr s).1.length ≤ s.1.length ∧ (rdCStr s).2.1.length ≤ s.1.length := by
  have a := (rdUv_len s).1
  have b := rdSpan_len ((rdUv s).1 - 1) (rdUv s).2
  unfold rdCStr
  omega
theorem rdNStr_len (s : St) : (∀ x, (rdNStr s).1 = some x → x.length ≤ s.1.length) ∧ (rdNStr s).2.1.length ≤ s.1.length := by
  have a := rdI_len 2 s
  have b := rdStr_len s
  unfold rdNStr
  split
  · exact ⟨(fun x h => by cases h), a⟩
  · exact ⟨(fun x h => by cases h; exact b.1), b.2⟩
theorem rdCNStr_len (s : St) : (∀ x, (rdCNStr s).1 = some x → x.length ≤ s.1.length) ∧ (rdCNStr s).2.1.length ≤ s.1.length := by
  have a := (rdUv_len s).1
  have b := rdCStr_len s
  unfold rdCNStr
  split
  · exact ⟨(fun x h => by cases h), a⟩
  · exact ⟨(fun x h => by cases h; exact b.1), b.2⟩
theorem rdUuid_len (s : St) : (rdUuid s).2.1.length ≤ s.1.length := (rdSpan_len 16 s).2
end Go.Proofs.YtobbchmjgoaleaaGreatDoor
