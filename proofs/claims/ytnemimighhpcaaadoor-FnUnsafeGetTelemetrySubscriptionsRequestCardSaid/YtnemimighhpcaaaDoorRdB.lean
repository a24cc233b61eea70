/-
  Reader.Bool, Int8, Ok.
-/
import Derived.Test.YtnemimighhpcaaaDoorRead
namespace Go.Proofs.YtnemimighhpcaaaDoor
open Go.ChangeShapes Go.WideShapes Go.ChangeAt Go.RowKit

def rdBool (s : St) : Bool × St := (((rdN 1 s).1 : Int) != 0, (rdN 1 s).2)
theorem i8_val (b0 : UInt8) (r : Bs) (bad : Bool) : (rdI 1 (b0 :: r, bad)).1 = IntKind.i8.wrap (b0.toNat : Int) := by
  have h0 : b0.toNat < 256 := b0.toNat_lt
  simp only [rdI, rdN, List.length_cons, if_neg (show ¬ r.length + 1 < 1 by omega), List.take_succ_cons, List.take_zero, be, List.foldl_cons, List.foldl_nil, sgn, wrap_i8']
  split <;> split <;> omega
theorem n8_val (b0 : UInt8) (r : Bs) (bad : Bool) : (rdN 1 (b0 :: r, bad)).1 = b0.toNat := by
  simp only [rdN, List.length_cons, if_neg (show ¬ r.length + 1 < 1 by omega), List.take_succ_cons, List.take_zero, be, List.foldl_cons, List.foldl_nil]
  omega
set_option maxHeartbeats 400000 in
set_option maxRecDepth 100000 in
theorem int8_any {G : Nat → Prop} {b : Nat} {s : St} {w : World} (h : Rd w b G s) (hG : There G w) (hb : ¬ G b) :
    Calls Tryd.prog 147 #[.pointer (some ⟨b, 0, none⟩)] w fun e w' => e = .returned (.int .i8 (rdI 1 s).1) ∧ Rd w' b G (rdI 1 s).2 ∧ Keep [b] w w' := by
  obtain ⟨src, bad⟩ := s
  obtain ⟨v, hh, hr⟩ := h
  obtain ⟨ao, cap, rfl⟩ := RS.shape hr
  have c0 : w.cell? ⟨b, 0, none⟩ = some (.slice ao src.length cap) := cellOf hh 0 _ rfl
  have c1 : w.cell? ⟨b, 1, none⟩ = some (.bool bad) := cellOf hh 1 _ rfl
  have f0 := freeOf hh 0
  have f1 := freeOf hh 1
  go_enter Tryd.func147, Tryd.ntmps147
  have HH : Hid _ := hh
  clear hh
  cases src with
  | nil =>
    go_wp2_with fail
    go_ret
    exact ⟨by simp [rdI, rdN, sgn], ⟨.slice none 0 0, by simp only [rdI, rdN, List.length_nil, Nat.lt_one_iff, if_true]; exact heap_set (heap_set HH.out _) _, by simp only [rdI, rdN, List.length_nil, Nat.lt_one_iff, if_true]; exact RB.nil _ _⟩, ((Keep.refl _ _).setCell (.inl (by simp)) _).setCell (.inl (by simp)) _⟩
  | cons b0 r =>
    obtain ⟨bs, o, rfl, hGb, -, hcap, hc⟩ := hr.spot (by simp)
    have g0 : w.cell? ⟨bs, o, none⟩ = some (.int .u8 b0.toNat) := hc 0 (by simp)
    clear hc
    by_cases h1 : cap = 1
    · subst h1
      go_wp2_with fail
      go_ret
      obtain ⟨q1, q2⟩ := rd_done (k := 1) (b := b) (v := .slice (some ⟨bs, o, none⟩) r.length 0) hG hb hr (by simp) (Keep.refl _ _) HH.out (.inl ⟨by simp at hcap ⊢; omega, by simp at hcap ⊢; omega⟩)
      exact ⟨by simp [i8_val], q1, q2⟩
    · go_wp2_with fail
      go_ret
      obtain ⟨q1, q2⟩ := rd_done (k := 1) (b := b) (v := .slice (some ⟨bs, o + 1, none⟩) r.length (cap - 1)) hG hb hr (by simp) (Keep.refl _ _) HH.out (.inr (by simp))
      exact ⟨by simp [i8_val], q1, q2⟩
set_option maxHeartbeats 400000 in
set_option maxRecDepth 100000 in
theorem bool_any {G : Nat → Prop} {b : Nat} {s : St} {w : World} (h : Rd w b G s) (hG : There G w) (hb : ¬ G b) :
    Calls Tryd.prog 146 #[.pointer (some ⟨b, 0, none⟩)] w fun e w' => e = .returned (.bool (rdBool s).1) ∧ Rd w' b G (rdBool s).2 ∧ Keep [b] w w' := by
  obtain ⟨src, bad⟩ := s
  obtain ⟨v, hh, hr⟩ := h
  obtain ⟨ao, cap, rfl⟩ := RS.shape hr
  have c0 : w.cell? ⟨b, 0, none⟩ = some (.slice ao src.length cap) := cellOf hh 0 _ rfl
  have c1 : w.cell? ⟨b, 1, none⟩ = some (.bool bad) := cellOf hh 1 _ rfl
  have f0 := freeOf hh 0
  have f1 := freeOf hh 1
  go_enter Tryd.func146, Tryd.ntmps146
  have HH : Hid _ := hh
  clear hh
  cases src with
  | nil =>
    go_wp2_with fail
    go_ret
    exact ⟨by simp [rdBool, rdN], ⟨.slice none 0 0, by simp only [rdBool, rdN, List.length_nil, Nat.lt_one_iff, if_true]; exact heap_set (heap_set HH.out _) _, by simp only [rdBool, rdN, List.length_nil, Nat.lt_one_iff, if_true]; exact RB.nil _ _⟩, ((Keep.refl _ _).setCell (.inl (by simp)) _).setCell (.inl (by simp)) _⟩
  | cons b0 r =>
    obtain ⟨bs, o, rfl, hGb, -, hcap, hc⟩ := hr.spot (by simp)
    have g0 : w.cell? ⟨bs, o, none⟩ = some (.int .u8 b0.toNat) := hc 0 (by simp)
    clear hc
    by_cases h1 : cap = 1
    · subst h1
      go_wp2_with fail
      go_ret
      obtain ⟨q1, q2⟩ := rd_done (k := 1) (b := b) (v := .slice (some ⟨bs, o, none⟩) r.length 0) hG hb hr (by simp) (Keep.refl _ _) HH.out (.inl ⟨by simp at hcap ⊢; omega, by simp at hcap ⊢; omega⟩)
      exact ⟨by simp [rdBool, n8_val], q1, q2⟩
    · go_wp2_with fail
      go_ret
      obtain ⟨q1, q2⟩ := rd_done (k := 1) (b := b) (v := .slice (some ⟨bs, o + 1, none⟩) r.length (cap - 1)) hG hb hr (by simp) (Keep.refl _ _) HH.out (.inr (by simp))
      exact ⟨by simp [rdBool, n8_val], q1, q2⟩
end Go.Proofs.YtnemimighhpcaaaDoor
