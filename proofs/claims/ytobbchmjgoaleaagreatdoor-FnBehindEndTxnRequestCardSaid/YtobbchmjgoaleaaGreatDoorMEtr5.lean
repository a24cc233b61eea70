/-
  Reader.Span.
-/
import Derived.Test.YtobbchmjgoaleaaGreatDoorMEtr3
import Derived.Test.YtobbchmjgoaleaaGreatDoorMEtr4
import Derived.Laws.IdiomStrings
import Derived.Laws.BytesArg
namespace Go.Proofs.YtobbchmjgoaleaaGreatDoor
open Go.ChangeShapes Go.WideShapes Go.ChangeAt Go.RowKit

def rdSpan (n : Int) (s : St) : Bs × St := if (s.1.length : Int) < n ∨ n < 0 then ([], ([], true)) else (s.1.take n.toNat, (s.1.drop n.toNat, s.2))
theorem RB.cut {w : World} {G : Nat → Prop} {b o n cap : Nat} {l : Bs} (h : RB w G (.slice (some ⟨b, o, none⟩) n cap) l) (m : Nat) (hm : m ≤ l.length) : RB w G (.slice (some ⟨b, o, none⟩) m m) (l.take m) := by
  obtain ⟨ao', cap', e, h1, h2, h3⟩ := h
  cases e
  have hl : (l.take m).length = m := by simp; omega
  refine ⟨_, m, by rw [hl], by omega, (fun h => by cases h), fun a ha => ?_⟩
  cases ha
  refine ⟨fun _ => rfl, fun i hi => ?_⟩
  have hi' : i < (l.map bv).length := by simp at hi ⊢; omega
  obtain ⟨q1, q2⟩ := (h3 _ rfl).2 i hi'
  refine ⟨q1, ?_⟩
  rw [q2]
  simp
set_option maxHeartbeats 400000 in
set_option maxRecDepth 100000 in
theorem span_any {G : Nat → Prop} {b : Nat} {s : St} {w : World} {n : Int} (h : Rd w b G s) (hb : ¬ G b) :
    Calls Tryz.prog 218 #[.pointer (some ⟨b, 0, none⟩), .int .i64 n] w fun e w' => ∃ v, e = .returned v ∧ RB w' G v (rdSpan n s).1 ∧ Rd w' b G (rdSpan n s).2 ∧ Keep [b] w w' := by
  obtain ⟨src, bad⟩ := s
  obtain ⟨v, hh, hr⟩ := h
  obtain ⟨ao, cap, rfl⟩ := RS.shape hr
  have c0 : w.cell? ⟨b, 0, none⟩ = some (.slice ao src.length cap) := cellOf hh 0 _ rfl
  have c1 : w.cell? ⟨b, 1, none⟩ = some (.bool bad) := cellOf hh 1 _ rfl
  have f0 := freeOf hh 0
  have f1 := freeOf hh 1
  have HH : Hid _ := hh
  clear hh
  go_enter Tryz.func218, Tryz.ntmps218
  have hcap : src.length ≤ cap := by
    obtain ⟨_, _, e, h, _⟩ := hr
    cases e
    exact h
  by_cases h1 : (src.length : Int) < n
  · go_wp2_with fail
    go_ret
    exact ⟨_, rfl, by simp only [rdSpan, h1, true_or, if_true]; exact RB.nil _ _, ⟨.slice none 0 0, by simp only [rdSpan, h1, true_or, if_true]; exact heap_set (heap_set HH.out _) _, by simp only [rdSpan, h1, true_or, if_true]; exact RB.nil _ _⟩, ((Keep.refl _ _).setCell (.inl (by simp)) _).setCell (.inl (by simp)) _⟩
  by_cases h2 : n < 0
  · go_wp2_with fail
    go_ret
    exact ⟨_, rfl, by simp only [rdSpan, h2, or_true, if_true]; exact RB.nil _ _, ⟨.slice none 0 0, by simp only [rdSpan, h2, or_true, if_true]; exact heap_set (heap_set HH.out _) _, by simp only [rdSpan, h2, or_true, if_true]; exact RB.nil _ _⟩, ((Keep.refl _ _).setCell (.inl (by simp)) _).setCell (.inl (by simp)) _⟩
  obtain ⟨m, rfl⟩ := Int.eq_ofNat_of_zero_le (Int.not_lt.1 h2)
  have h3 : m ≤ src.length := by omega
  have e : rdSpan (m : Int) (src, bad) = (src.take m, (src.drop m, bad)) := by
    unfold rdSpan
    rw [if_neg (by simp only; omega)]
    simp
  have E : Hid _ := e
  clear e h1 h2
  cases ao with
  | none =>
    have hn : src = [] ∧ cap = 0 := by
      obtain ⟨_, _, e, _, h, _⟩ := hr
      cases e
      exact ⟨List.eq_nil_of_length_eq_zero (h rfl).1, (h rfl).2.1⟩
    obtain ⟨rfl, rfl⟩ := hn
    obtain rfl : m = 0 := by simpa using h3
    go_wp2_with fail
    go_ret
    have e := E.out
    simp only [List.take_nil, List.drop_nil] at e
    exact ⟨_, rfl, by rw [show rdSpan 0 ([], bad) = _ from e]; exact RB.nil _ _, ⟨.slice none 0 0, by rw [show rdSpan 0 ([], bad) = _ from e]; exact heap_set HH.out _, by rw [show rdSpan 0 ([], bad) = _ from e]; exact RB.nil _ _⟩, (Keep.refl _ _).setCell (.inl (by simp)) _⟩
  | some a =>
    obtain ⟨bs, o, sp⟩ := a
    have hsp : 0 < src.length → sp = none := by
      obtain ⟨_, _, e, _, _, h⟩ := hr
      cases e
      exact fun h0 => (h _ rfl).1 (by simpa using h0)
    cases sp with
    | some s =>
      have h0 : src = [] := List.eq_nil_of_length_eq_zero (Nat.eq_zero_of_not_pos fun h0 => by cases hsp h0)
      subst h0
      obtain rfl : m = 0 := by simpa using h3
      have e := E.out
      simp only [List.take_nil, List.drop_nil] at e
      have e2 : Hid _ := e
      clear e
      by_cases hc : 0 = cap
      · subst hc
        go_wp2_with fail
        refine bodyPost_ret (v := .slice (some ⟨bs, o, some s⟩) 0 0) (by simp [results, Tryz.results218, go_sem]) rfl ⟨_, rfl, ?_, ⟨.slice (some ⟨bs, o, some s⟩) 0 0, ?_, ?_⟩, (Keep.refl _ _).setCell (.inl (by simp)) _⟩
        · rw [show rdSpan 0 ([], bad) = _ from e2.out]; exact RB.empty _ _ _ _
        · rw [show rdSpan 0 ([], bad) = _ from e2.out]; exact heap_set HH.out _
        · rw [show rdSpan 0 ([], bad) = _ from e2.out]; exact RB.empty _ _ _ _
      · go_wp2_with fail
        refine bodyPost_ret (v := .slice (some ⟨bs, o, some s⟩) 0 0) (by simp [results, Tryz.results218, go_sem]) rfl ⟨_, rfl, ?_, ⟨.slice (some ⟨bs, o, some s⟩) 0 cap, ?_, ?_⟩, (Keep.refl _ _).setCell (.inl (by simp)) _⟩
        · rw [show rdSpan 0 ([], bad) = _ from e2.out]; exact RB.empty _ _ _ _
        · rw [show rdSpan 0 ([], bad) = _ from e2.out]; exact heap_set HH.out _
        · rw [show rdSpan 0 ([], bad) = _ from e2.out]; exact RB.empty _ _ _ _
    | none =>
    have hs : ∀ x, SameOn G w (w.setCell ⟨b, 0, none⟩ x) := fun x k hk => Below.heap_setCell _ _ _ _ (fun e => hb (by simp only at e; rw [← e]; exact hk))
    by_cases hc : m = cap
    · subst hc
      have hl : src.drop m = [] := List.drop_eq_nil_of_le hcap
      have hl2 : src.length - m = 0 := by omega
      go_wp2_with fail
      refine bodyPost_ret (v := .slice (some ⟨bs, o, none⟩) m m) (by simp [results, Tryz.results218, go_sem]) rfl ⟨_, rfl, ?_, ⟨.slice (some ⟨bs, o, none⟩) 0 0, ?_, ?_⟩, (Keep.refl _ _).setCell (.inl (by simp)) _⟩
      · rw [E.out]; exact (hr.cut m h3).keepF (hs _) (fun _ h => h)
      · rw [E.out]; exact heap_set HH.out _
      · rw [E.out]; simp only [hl]; exact RB.none0 _ _ _ _ _
    · go_wp2_with fail
      refine bodyPost_ret (v := .slice (some ⟨bs, o, none⟩) m m) (by simp [results, Tryz.results218, go_sem]) rfl ⟨_, rfl, ?_, ⟨.slice (some ⟨bs, o + m, none⟩) (src.length - m) (cap - m), ?_, ?_⟩, (Keep.refl _ _).setCell (.inl (by simp)) _⟩
      · rw [E.out]; exact (hr.cut m h3).keepF (hs _) (fun _ h => h)
      · rw [E.out]; exact heap_set HH.out _
      · rw [E.out]; exact (hr.drop m _ _ h3 rfl rfl).keepF (hs _) (fun _ h => h)
end Go.Proofs.YtobbchmjgoaleaaGreatDoor
/-
  Reader.Int16.
-/
namespace Go.Proofs.YtobbchmjgoaleaaGreatDoor
open Go.ChangeShapes Go.WideShapes Go.ChangeAt Go.RowKit

set_option maxHeartbeats 400000 in
theorem u16_any (G : Nat → Prop) (w : World) (ao : Option Addr) (n cap : Nat) (b0 b1 : UInt8) (r : Bs) (h : RB w G (.slice ao n cap) (b0 :: b1 :: r)) :
    Calls Tryz.prog 215 #[.agg #[], .slice ao n cap] w fun e w' => e = .returned (.int .u16 (256 * (b0.toNat : Int) + b1.toNat)) ∧ Keep [] w w' := by
  obtain ⟨b, o, rfl, _, hn, _, hc⟩ := h.spot (by simp)
  have h0 : w.cell? ⟨b, o, none⟩ = some (.int .u8 b0.toNat) := hc 0 (by simp)
  have h1 : w.cell? ⟨b, o + 1, none⟩ = some (.int .u8 b1.toNat) := hc 1 (by simp)
  have h2 : 2 ≤ n := by simp at hn; omega
  have hlt := World.block_lt_of_cell? w _ h0
  have g0 : (w.alloc (Obj.cells #[] 194)).cell? ⟨b, o, none⟩ = some (.int .u8 b0.toNat) := by rw [World.cell?_alloc_lt _ _ _ hlt]; exact h0
  have g1 : (w.alloc (Obj.cells #[] 194)).cell? ⟨b, o + 1, none⟩ = some (.int .u8 b1.toNat) := by rw [World.cell?_alloc_lt _ _ _ (World.block_lt_of_cell? w _ h1)]; exact h1
  have hb0 : b0.toNat < 256 := b0.toNat_lt
  have hb1 : b1.toNat < 256 := b1.toNat_lt
  clear hc hn h h0 h1
  generalize b0.toNat = x0 at *
  generalize b1.toNat = x1 at *
  go_enter Tryz.func215, Tryz.ntmps215
  go_wp2
  go_quiet (fail)
  go_wp2
  refine bodyPost_ret (v := .int .u16 (256 * (x0 : Int) + x1)) ?_ rfl ⟨rfl, ((keep_box _).drewN _)⟩
  simp [results, Tryz.results215, go_sem]
  rw [or_up .u16 16 (by decide) wraps_u16 8 _ _ (by omega) (by omega) (by omega) (by omega) (by omega) (by omega)]
  omega

theorem i16_val (b0 b1 : UInt8) (r : Bs) (bad : Bool) : (rdI 2 (b0 :: b1 :: r, bad)).1 = IntKind.i16.wrap (256 * (b0.toNat : Int) + b1.toNat) := by
  have h0 : b0.toNat < 256 := b0.toNat_lt
  have h1 : b1.toNat < 256 := b1.toNat_lt
  simp only [rdI, rdN, List.length_cons, if_neg (show ¬ r.length + 1 + 1 < 2 by omega), List.take_succ_cons, List.take_zero, be, List.foldl_cons, List.foldl_nil, sgn, wrap_i16']
  split <;> split <;> omega
theorem i16_body : Tryz.f182.body.isNone = false := by kernel_rfl
set_option maxHeartbeats 400000 in
set_option maxRecDepth 100000 in
theorem int16_any {G : Nat → Prop} {b : Nat} {s : St} {w : World} (h : Rd w b G s) (hG : There G w) (hb : ¬ G b) :
    Calls Tryz.prog 182 #[.pointer (some ⟨b, 0, none⟩)] w fun e w' => e = .returned (.int .i16 (rdI 2 s).1) ∧ Rd w' b G (rdI 2 s).2 ∧ Keep [b] w w' := by
  obtain ⟨src, bad⟩ := s
  obtain ⟨v, hh, hr⟩ := h
  obtain ⟨ao, cap, rfl⟩ := RS.shape hr
  have c0 : w.cell? ⟨b, 0, none⟩ = some (.slice ao src.length cap) := cellOf hh 0 _ rfl
  have c1 : w.cell? ⟨b, 1, none⟩ = some (.bool bad) := cellOf hh 1 _ rfl
  have f0 := freeOf hh 0
  have f1 := freeOf hh 1
  go_enter Tryz.func182, Tryz.ntmps182
  by_cases hl : src.length < 2
  · go_wp2_with fail
    go_ret
    exact ⟨by simp [rdI, rdN, hl, sgn], ⟨.slice none 0 0, by simp only [rdI, rdN, hl, if_true]; exact heap_set (heap_set hh _) _, by simp only [rdI, rdN, hl, if_true]; exact RB.nil _ _⟩, ((Keep.refl _ _).setCell (.inl (by simp)) _).setCell (.inl (by simp)) _⟩
  · obtain ⟨b0, b1, r, rfl⟩ : ∃ b0 b1 r, src = b0 :: b1 :: r := by
      match src, hl with
      | b0 :: b1 :: r, _ => exact ⟨b0, b1, r, rfl⟩
      | [_], h => simp at h
      | [], h => simp at h
    have HH : Hid _ := hh
    clear hh
    have hS := c0
    go_wp2_with fail
    go_region_held3 (fun w' => w'.cell? ⟨b, 0, none⟩ = some (.slice ao (b0 :: b1 :: r).length cap)) (exact hS) (first
      | (go_at_call 215; refine (u16_any G _ ao _ cap b0 b1 r (hr.keepF (hG.same (Keep.refl _ _).drew) (fun _ h => h))).mono ?_; rintro e w2 ⟨rfl, hk2⟩; have kx : Keep [] w w2 := (Keep.refl _ _).drew.trans hk2; have hS := kx.cs c0))
    obtain ⟨bs, o, rfl, hGb, -, hcap, -⟩ := hr.spot (by simp)
    have hbw : b < w.heap.size := World.block_lt_of_cell? w _ c0
    have hh2 := (kx.block b hbw (by simp)).trans HH.out
    have d0 : w2.cell? ⟨b, 0, none⟩ = some (.slice (some ⟨bs, o, none⟩) (b0 :: b1 :: r).length cap) := cellOf hh2 0 _ rfl
    have e0 := freeOf hh2 0
    have HH2 : Hid _ := hh2
    clear hh2
    by_cases hcap : cap = 2
    · subst hcap
      go_wp2
      go_ret
      obtain ⟨q1, q2⟩ := rd_done (k := 2) (b := b) (v := .slice (some ⟨bs, o, none⟩) r.length 0) hG hb hr hl kx HH2.out (.inl ⟨by simp at hcap ⊢; omega, by simp at hcap ⊢; omega⟩)
      exact ⟨by simp [i16_val], q1, q2⟩
    · go_wp2
      go_ret
      obtain ⟨q1, q2⟩ := rd_done (k := 2) (b := b) (v := .slice (some ⟨bs, o + 2, none⟩) r.length (cap - 2)) hG hb hr hl kx HH2.out (.inr (by simp))
      exact ⟨by simp [i16_val], q1, q2⟩
end Go.Proofs.YtobbchmjgoaleaaGreatDoor
/-
  Reader.String, UnsafeString.
-/
namespace Go.Proofs.YtobbchmjgoaleaaGreatDoor
open Go.ChangeShapes Go.WideShapes Go.ChangeAt Go.RowKit

def rdStr (s : St) : Bs × St := rdSpan (rdI 2 s).1 (rdI 2 s).2
/-- octets as a text of the model -/
def str (l : Bs) : Value := .string ⟨l.toArray⟩
theorem conv_any {G : Nat → Prop} {ao : Option Addr} {cap : Nat} {l : Bs} {w : World} (h : RB w G (.slice ao l.length cap) l) :
    (convert 22 9 (.slice ao l.length cap)).run Tryz.prog w = .ok (str l) w := by
  cases ao with
  | none =>
    obtain ⟨_, _, e, _, hn, _⟩ := h
    cases e
    have hl : l = [] := List.eq_nil_of_length_eq_zero (hn rfl).1
    subst hl
    exact run_convert_bytes_nil w 22 5 Tryz.underlying22 Tryz.underlying5 _ _ _ Tryz.underlying9
  | some a =>
    obtain ⟨_, _, e, _, _, hc⟩ := h
    cases e
    obtain ⟨b, o, sp⟩ := a
    obtain ⟨g1, g2⟩ := hc _ rfl
    exact run_convert_bytes_back w _ _ _ _ _ l Tryz.underlying22 Tryz.underlying5 Tryz.underlying9 (fun j hj => by
      replace g1 := g1 (by simp; omega)
      simp only at g1
      subst g1
      rw [addr_add]
      have := (g2 j (by simpa using hj)).2
      simpa [bv] using this)
set_option maxHeartbeats 400000 in
set_option maxRecDepth 100000 in
theorem string_any {G : Nat → Prop} {b : Nat} {s : St} {w : World} (h : Rd w b G s) (hG : There G w) (hb : ¬ G b) :
    Calls Tryz.prog 197 #[.pointer (some ⟨b, 0, none⟩)] w fun e w' => e = .returned (str (rdStr s).1) ∧ Rd w' b G (rdStr s).2 ∧ Keep [b] w w' := by
  have hR1 : -32768 ≤ (rdI 2 s).1 := (rdI_range2 _).1
  have hR2 : (rdI 2 s).1 ≤ 32767 := (rdI_range2 _).2
  go_enter Tryz.func197, Tryz.ntmps197
  go_wp2_with (first
    | (go_at_call 182; go_loud (refine (int16_any h hG hb).mono ?_; rintro e w1 ⟨rfl, h1, k1⟩))
    | (go_at_call 218; go_loud (refine (span_any h1 hb).mono ?_; rintro e w2 ⟨v, rfl, hv, h2, k2⟩; obtain ⟨ao, cap, rfl⟩ := RS.shape hv; have hcv := conv_any hv)))
  go_ret
  exact ⟨rfl, h2, k1.trans k2⟩
end Go.Proofs.YtobbchmjgoaleaaGreatDoor
/-
  Reader.UnsafeString, CompactString, NullableString, CompactNullableString, each both ways.
-/
namespace Go.Proofs.YtobbchmjgoaleaaGreatDoor
open Go.ChangeShapes Go.WideShapes Go.ChangeAt Go.RowKit

def rdCStr (s : St) : Bs × St := rdSpan ((rdUv s).1 - 1) (rdUv s).2
def rdNStr (s : St) : Option Bs × St := if (rdI 2 s).1 < 0 then (none, (rdI 2 s).2) else (some (rdStr s).1, (rdStr s).2)
def rdCNStr (s : St) : Option Bs × St := if (rdUv s).1 = 0 then (none, (rdUv s).2) else (some (rdCStr s).1, (rdCStr s).2)
/-- a pointer to a text, or nil -/
def PS (w : World) (G : Nat → Prop) (v : Value) (o : Option Bs) : Prop :=
  (v = .pointer none ∧ o = none) ∨ ∃ k l, v = .pointer (some ⟨k, 0, none⟩) ∧ o = some l ∧ G k ∧ w.heap[k]? = some (.cells #[str l] 9 (0, 0))
theorem Rd.lt' {w : World} {b : Nat} {G : Nat → Prop} {s : St} (h : Rd w b G s) : b < w.heap.size := by
  obtain ⟨v, h1, _⟩ := h
  exact (Array.getElem?_eq_some_iff.1 h1).1
theorem PS.keepF {w w' : World} {F G : Nat → Prop} {v : Value} {o : Option Bs} (h : PS w F v o) (hs : SameOn F w w') (hg : ∀ k, F k → G k) : PS w' G v o := by
  rcases h with h | ⟨k, l, h1, h2, h3, h4⟩
  · exact .inl h
  · exact .inr ⟨k, l, h1, h2, hg k h3, (hs k h3).trans h4⟩

theorem unsafestr_any {G : Nat → Prop} {ao : Option Addr} {cap : Nat} {l : Bs} {w : World} (h : RB w G (.slice ao l.length cap) l) :
    Calls Tryz.prog 217 #[.slice ao l.length cap] w fun e w' => e = .returned (str l) ∧ w = w' := by
  have hcv := conv_any h
  go_enter Tryz.func217, Tryz.ntmps217
  go_wp2_with fail
  go_ret
  exact ⟨rfl, rfl⟩
set_option maxHeartbeats 400000 in
set_option maxRecDepth 100000 in
theorem ustring_any {G : Nat → Prop} {b : Nat} {s : St} {w : World} (h : Rd w b G s) (hG : There G w) (hb : ¬ G b) :
    Calls Tryz.prog 195 #[.pointer (some ⟨b, 0, none⟩)] w fun e w' => e = .returned (str (rdStr s).1) ∧ Rd w' b G (rdStr s).2 ∧ Keep [b] w w' := by
  have hR1 : -32768 ≤ (rdI 2 s).1 := (rdI_range2 _).1
  have hR2 : (rdI 2 s).1 ≤ 32767 := (rdI_range2 _).2
  go_enter Tryz.func195, Tryz.ntmps195
  go_wp2_with (first
    | (go_at_call 182; go_loud (refine (int16_any h hG hb).mono ?_; rintro e w1 ⟨rfl, h1, k1⟩))
    | (go_at_call 218; go_loud (refine (span_any h1 hb).mono ?_; rintro e w2 ⟨v, rfl, hv, h2, k2⟩; obtain ⟨ao, cap, rfl⟩ := RS.shape hv))
    | (go_at_call 217; go_loud (refine (unsafestr_any hv).mono ?_; rintro e w3 ⟨rfl, rfl⟩)))
  go_ret
  exact ⟨rfl, h2, k1.trans k2⟩
set_option maxHeartbeats 400000 in
set_option maxRecDepth 100000 in
theorem cstring_any {G : Nat → Prop} {b : Nat} {s : St} {w : World} (h : Rd w b G s) (hG : There G w) (hb : ¬ G b) :
    Calls Tryz.prog 196 #[.pointer (some ⟨b, 0, none⟩)] w fun e w' => e = .returned (str (rdCStr s).1) ∧ Rd w' b G (rdCStr s).2 ∧ Keep [b] w w' := by
  have hR2 : (rdUv s).1 < 4294967296 := rdUv_lt s
  go_enter Tryz.func196, Tryz.ntmps196
  go_wp2_with (first
    | (go_at_call 216; go_loud (refine (rduv_any h hG hb).mono ?_; rintro e w1 ⟨rfl, h1, k1⟩))
    | (go_at_call 218; go_loud (refine (span_any h1 hb).mono ?_; rintro e w2 ⟨v, rfl, hv, h2, k2⟩; obtain ⟨ao, cap, rfl⟩ := RS.shape hv; have hcv := conv_any hv)))
  go_ret
  exact ⟨rfl, h2, k1.trans k2⟩
set_option maxHeartbeats 400000 in
set_option maxRecDepth 100000 in
theorem ucstring_any {G : Nat → Prop} {b : Nat} {s : St} {w : World} (h : Rd w b G s) (hG : There G w) (hb : ¬ G b) :
    Calls Tryz.prog 194 #[.pointer (some ⟨b, 0, none⟩)] w fun e w' => e = .returned (str (rdCStr s).1) ∧ Rd w' b G (rdCStr s).2 ∧ Keep [b] w w' := by
  have hR2 : (rdUv s).1 < 4294967296 := rdUv_lt s
  go_enter Tryz.func194, Tryz.ntmps194
  go_wp2_with (first
    | (go_at_call 216; go_loud (refine (rduv_any h hG hb).mono ?_; rintro e w1 ⟨rfl, h1, k1⟩))
    | (go_at_call 218; go_loud (refine (span_any h1 hb).mono ?_; rintro e w2 ⟨v, rfl, hv, h2, k2⟩; obtain ⟨ao, cap, rfl⟩ := RS.shape hv))
    | (go_at_call 217; go_loud (refine (unsafestr_any hv).mono ?_; rintro e w3 ⟨rfl, rfl⟩)))
  go_ret
  exact ⟨rfl, h2, k1.trans k2⟩
end Go.Proofs.YtobbchmjgoaleaaGreatDoor
/-
  Reader.Uuid.
-/
namespace Go.Proofs.YtobbchmjgoaleaaGreatDoor
open Go.ChangeShapes Go.WideShapes Go.ChangeAt Go.RowKit

def pad16 (x : Bs) : Bs := x.take 16 ++ List.replicate (16 - x.length) 0
def rdUuid (s : St) : Bs × St := (pad16 (rdSpan 16 s).1, (rdSpan 16 s).2)
theorem pad16_length (x : Bs) : (pad16 x).length = 16 := by simp [pad16]; omega
theorem span_body : Tryz.f218.body.isNone = false := by kernel_rfl
theorem span_name : (Tryz.f218.name == "runtime.NumGoroutine") = false := by kernel_rfl
theorem rdSpan_le (s : St) : (rdSpan 16 s).1.length ≤ 16 := by
  unfold rdSpan
  split
  · simp
  · simp; omega
/-- cells set one behind the other -/
def setAll (w : World) (b : Nat) : Nat → List Value → World
  | _, [] => w
  | i, x :: xs => setAll (w.setCell ⟨b, i, none⟩ x) b (i + 1) xs
theorem setAll_heap {b : Nat} {t : TypeId} {z : Nat × Nat} : ∀ {xs old : List Value} {w : World} {pre post : List Value}, xs.length = old.length → w.heap[b]? = some (.cells (pre ++ old ++ post).toArray t z) →
    (setAll w b pre.length xs).heap[b]? = some (.cells (pre ++ xs ++ post).toArray t z) ∧ Keep [b] w (setAll w b pre.length xs)
  | [], [], w, pre, post, _, h => ⟨h, Keep.refl _ _⟩
  | x :: xs, y :: old, w, pre, post, hl, h => by
    have h1 := heap_set (i := pre.length) h x
    have e : ((pre ++ y :: old ++ post).toArray.setIfInBounds pre.length x) = ((pre ++ [x]) ++ old ++ post).toArray := by simp
    rw [e] at h1
    have ih := setAll_heap (xs := xs) (old := old) (pre := pre ++ [x]) (post := post) (by simpa using hl) h1
    simp only [List.length_append, List.length_cons, List.length_nil, Nat.zero_add] at ih
    refine ⟨?_, ?_⟩
    · show (setAll (w.setCell ⟨b, pre.length, none⟩ x) b (pre.length + 1) xs).heap[b]? = _
      rw [ih.1]
      simp
    · exact ((Keep.refl _ _).setCell (.inl (by simp)) _).trans ih.2
theorem Rd.keepA {w w' : World} {b : Nat} {G : Nat → Prop} {s : St} (h : Rd w b G s) (hG : There G w) (hb : b < w.heap.size) {A : List Nat} (hk : Keep A w w') (hA : ∀ k ∈ A, ¬ G k) (hbA : b ∉ A) : Rd w' b G s := by
  obtain ⟨v, h1, h2⟩ := h
  exact ⟨v, (hk.block b hb hbA).trans h1, h2.keepF (sameOn_of hk hG (fun k hk' hm => hA k hm hk')) (fun _ h => h)⟩
theorem Rd.keepW {w w' : World} {b : Nat} {G : Nat → Prop} {s : St} (h : Rd w b G s) (hG : There G w) (hb : b < w.heap.size) (hk : Keep [] w w') : Rd w' b G s := by
  obtain ⟨v, h1, h2⟩ := h
  exact ⟨v, (hk.block b hb (by simp)).trans h1, h2.keepF (hG.same hk) (fun _ h => h)⟩
set_option maxHeartbeats 8000000 in
set_option maxRecDepth 100000 in
theorem uuid_any {G : Nat → Prop} {b : Nat} {s : St} {w : World} (h : Rd w b G s) (hG : There G w) (hb : ¬ G b) :
    Calls Tryz.prog 210 #[.pointer (some ⟨b, 0, none⟩)] w fun e w' => e = .returned (.agg ((rdUuid s).1.map bv).toArray) ∧ Rd w' b G (rdUuid s).2 ∧ Keep [b] w w' := by
  have hlt := h.lt'
  go_enter Tryz.func210, Tryz.ntmps210
  go_wp2_with fail
  have kW : Keep [] w ((w.alloc (.cells #[.int .u8 0, .int .u8 0, .int .u8 0, .int .u8 0, .int .u8 0, .int .u8 0, .int .u8 0, .int .u8 0, .int .u8 0, .int .u8 0, .int .u8 0, .int .u8 0, .int .u8 0, .int .u8 0, .int .u8 0, .int .u8 0] 148)).alloc (.cells #[.int .u8 0, .int .u8 0, .int .u8 0, .int .u8 0, .int .u8 0, .int .u8 0, .int .u8 0, .int .u8 0, .int .u8 0, .int .u8 0, .int .u8 0, .int .u8 0, .int .u8 0, .int .u8 0, .int .u8 0, .int .u8 0] 148)) := (keep_box _).alloc _
  have b0 : ((w.alloc (.cells #[.int .u8 0, .int .u8 0, .int .u8 0, .int .u8 0, .int .u8 0, .int .u8 0, .int .u8 0, .int .u8 0, .int .u8 0, .int .u8 0, .int .u8 0, .int .u8 0, .int .u8 0, .int .u8 0, .int .u8 0, .int .u8 0] 148)).alloc (.cells #[.int .u8 0, .int .u8 0, .int .u8 0, .int .u8 0, .int .u8 0, .int .u8 0, .int .u8 0, .int .u8 0, .int .u8 0, .int .u8 0, .int .u8 0, .int .u8 0, .int .u8 0, .int .u8 0, .int .u8 0, .int .u8 0] 148)).heap[w.heap.size]? = some (.cells (List.replicate 16 (.int .u8 0)).toArray 148 (0, 0)) := ((keep_box (A := []) _).block w.heap.size (by simp) (by simp)).trans (heap_alloc_new w (.cells #[.int .u8 0, .int .u8 0, .int .u8 0, .int .u8 0, .int .u8 0, .int .u8 0, .int .u8 0, .int .u8 0, .int .u8 0, .int .u8 0, .int .u8 0, .int .u8 0, .int .u8 0, .int .u8 0, .int .u8 0, .int .u8 0] 148))
  have b1 : ((w.alloc (.cells #[.int .u8 0, .int .u8 0, .int .u8 0, .int .u8 0, .int .u8 0, .int .u8 0, .int .u8 0, .int .u8 0, .int .u8 0, .int .u8 0, .int .u8 0, .int .u8 0, .int .u8 0, .int .u8 0, .int .u8 0, .int .u8 0] 148)).alloc (.cells #[.int .u8 0, .int .u8 0, .int .u8 0, .int .u8 0, .int .u8 0, .int .u8 0, .int .u8 0, .int .u8 0, .int .u8 0, .int .u8 0, .int .u8 0, .int .u8 0, .int .u8 0, .int .u8 0, .int .u8 0, .int .u8 0] 148)).heap[w.heap.size + 1]? = some (.cells (List.replicate 16 (.int .u8 0)).toArray 148 (0, 0)) := by
    have h := heap_alloc_new (w.alloc (.cells #[.int .u8 0, .int .u8 0, .int .u8 0, .int .u8 0, .int .u8 0, .int .u8 0, .int .u8 0, .int .u8 0, .int .u8 0, .int .u8 0, .int .u8 0, .int .u8 0, .int .u8 0, .int .u8 0, .int .u8 0, .int .u8 0] 148)) (.cells #[.int .u8 0, .int .u8 0, .int .u8 0, .int .u8 0, .int .u8 0, .int .u8 0, .int .u8 0, .int .u8 0, .int .u8 0, .int .u8 0, .int .u8 0, .int .u8 0, .int .u8 0, .int .u8 0, .int .u8 0, .int .u8 0] 148)
    simpa using h
  have hsz : ((w.alloc (.cells #[.int .u8 0, .int .u8 0, .int .u8 0, .int .u8 0, .int .u8 0, .int .u8 0, .int .u8 0, .int .u8 0, .int .u8 0, .int .u8 0, .int .u8 0, .int .u8 0, .int .u8 0, .int .u8 0, .int .u8 0, .int .u8 0] 148)).alloc (.cells #[.int .u8 0, .int .u8 0, .int .u8 0, .int .u8 0, .int .u8 0, .int .u8 0, .int .u8 0, .int .u8 0, .int .u8 0, .int .u8 0, .int .u8 0, .int .u8 0, .int .u8 0, .int .u8 0, .int .u8 0, .int .u8 0] 148)).heap.size = w.heap.size + 2 := by simp
  generalize ((w.alloc (.cells #[.int .u8 0, .int .u8 0, .int .u8 0, .int .u8 0, .int .u8 0, .int .u8 0, .int .u8 0, .int .u8 0, .int .u8 0, .int .u8 0, .int .u8 0, .int .u8 0, .int .u8 0, .int .u8 0, .int .u8 0, .int .u8 0] 148)).alloc (.cells #[.int .u8 0, .int .u8 0, .int .u8 0, .int .u8 0, .int .u8 0, .int .u8 0, .int .u8 0, .int .u8 0, .int .u8 0, .int .u8 0, .int .u8 0, .int .u8 0, .int .u8 0, .int .u8 0, .int .u8 0, .int .u8 0] 148)) = W at *
  have hGW := hG.keep kW
  have rd1 : Rd W b G s := h.keepW hG hlt kW
  have SP := fun U (hU : Keep [] W U) => span_any (n := 16) (rd1.keepW hGW rd1.lt' hU) hb
  have HB0 : Hid _ := b0
  have HB1 : Hid _ := b1
  clear b0 b1
  go_region_law (first
    | (refine step_call (by rfl) 218 #[.tmp 5, .const (.int .i64 16)] #[179, 3] (by rfl) #[.pointer (some ⟨b, 0, none⟩), .int .i64 16] (by simp [go_sem]) _ (by rfl) span_body span_name (SP _ (Keep.refl _ _).drew) ?_; rintro e w2 ⟨v, rfl, hv, h2, k2⟩; refine ⟨_, rfl, ?_⟩; obtain ⟨ao, cap, rfl⟩ := RS.shape hv)
    | (go_loud (refine step_copy_splice (by rfl) (.tmp 4) (.tmp 6) 22 22 (by rfl) 5 Tryz.underlying22 (by kernel_rfl) _ _ _ _ _ _ (by rfl) (by rfl) (w.heap.size + 1) 0 (List.replicate 16 (.int .u8 0)) 148 ((k2.block (w.heap.size + 1) (by simp; omega) (by simp; omega)).trans HB1.out) ((rdSpan 16 s).1.map bv) (by rw [List.length_map]; exact (Nat.min_eq_left (rdSpan_le s)).symm) (fun hp => ⟨rfl, RB.src hv (by simpa using hp)⟩) (by have := rdSpan_le s; simp; omega) (oneCell_bv _) (w.heap.size + 1) w2 (Below.refl _ _) (Nat.le_refl _) ?_; intro w3 HC hb3)))
  have e1 : w3.heap[w.heap.size + 1]? = some (.cells ((pad16 (rdSpan 16 s).1).map bv).toArray 148 (0, 0)) := by
    have h := HC.out
    rw [show splice (List.replicate 16 (Value.int .u8 0)) 0 ((rdSpan 16 s).1.map bv) = splice (List.replicate 16 (Value.int .u8 0)) 0 (((rdSpan 16 s).1.map bv).take 16) from by rw [List.take_of_length_le (by have := rdSpan_le s; simpa using this)]] at h
    rw [uuid_splice] at h
    exact h
  have k3 : Keep [b] w w3 := ⟨hb3.os.trans (k2.os.trans kW.os), hb3.tape.trans (k2.tape.trans kW.tape), hb3.output.trans (k2.output.trans kW.output), by have := hb3.size; have := k2.size; simp at *; omega, fun k hk hk' => (hb3.block k (by omega)).trans ((k2.block k (by simp; omega) hk').trans (kW.block k hk (by simp)))⟩
  have e0 : w3.heap[w.heap.size]? = some (.cells (List.replicate 16 (.int .u8 0)).toArray 148 (0, 0)) := (hb3.block _ (by omega)).trans ((k2.block _ (by simp; omega) (by simp; omega)).trans HB0.out)
  have hrd : Rd w3 b G (rdSpan 16 s).2 := by
    obtain ⟨v, q1, q2⟩ := h2
    exact ⟨v, (hb3.block b (by omega)).trans q1, q2.keepF (fun k hk => hb3.block k (by have := hG k hk; omega)) (fun _ h => h)⟩
  have hpl := pad16_length (rdSpan 16 s).1
  generalize hx : pad16 (rdSpan 16 s).1 = x at *
  have HX : Hid _ := hx
  clear hx HC SP
  obtain ⟨x0, x1, x2, x3, x4, x5, x6, x7, x8, x9, x10, x11, x12, x13, x14, x15, rfl⟩ : ∃ x0 x1 x2 x3 x4 x5 x6 x7 x8 x9 x10 x11 x12 x13 x14 x15, x = [x0, x1, x2, x3, x4, x5, x6, x7, x8, x9, x10, x11, x12, x13, x14, x15] := by
    match x, hpl with
    | [x0, x1, x2, x3, x4, x5, x6, x7, x8, x9, x10, x11, x12, x13, x14, x15], _ => exact ⟨x0, x1, x2, x3, x4, x5, x6, x7, x8, x9, x10, x11, x12, x13, x14, x15, rfl⟩
  have c0 : w3.cell? ⟨w.heap.size + 1, 0, none⟩ = some (.int .u8 (x0.toNat : Int)) := cellOf e1 0 _ rfl
  have c1 : w3.cell? ⟨w.heap.size + 1, 1, none⟩ = some (.int .u8 (x1.toNat : Int)) := cellOf e1 1 _ rfl
  have c2 : w3.cell? ⟨w.heap.size + 1, 2, none⟩ = some (.int .u8 (x2.toNat : Int)) := cellOf e1 2 _ rfl
  have c3 : w3.cell? ⟨w.heap.size + 1, 3, none⟩ = some (.int .u8 (x3.toNat : Int)) := cellOf e1 3 _ rfl
  have c4 : w3.cell? ⟨w.heap.size + 1, 4, none⟩ = some (.int .u8 (x4.toNat : Int)) := cellOf e1 4 _ rfl
  have c5 : w3.cell? ⟨w.heap.size + 1, 5, none⟩ = some (.int .u8 (x5.toNat : Int)) := cellOf e1 5 _ rfl
  have c6 : w3.cell? ⟨w.heap.size + 1, 6, none⟩ = some (.int .u8 (x6.toNat : Int)) := cellOf e1 6 _ rfl
  have c7 : w3.cell? ⟨w.heap.size + 1, 7, none⟩ = some (.int .u8 (x7.toNat : Int)) := cellOf e1 7 _ rfl
  have c8 : w3.cell? ⟨w.heap.size + 1, 8, none⟩ = some (.int .u8 (x8.toNat : Int)) := cellOf e1 8 _ rfl
  have c9 : w3.cell? ⟨w.heap.size + 1, 9, none⟩ = some (.int .u8 (x9.toNat : Int)) := cellOf e1 9 _ rfl
  have c10 : w3.cell? ⟨w.heap.size + 1, 10, none⟩ = some (.int .u8 (x10.toNat : Int)) := cellOf e1 10 _ rfl
  have c11 : w3.cell? ⟨w.heap.size + 1, 11, none⟩ = some (.int .u8 (x11.toNat : Int)) := cellOf e1 11 _ rfl
  have c12 : w3.cell? ⟨w.heap.size + 1, 12, none⟩ = some (.int .u8 (x12.toNat : Int)) := cellOf e1 12 _ rfl
  have c13 : w3.cell? ⟨w.heap.size + 1, 13, none⟩ = some (.int .u8 (x13.toNat : Int)) := cellOf e1 13 _ rfl
  have c14 : w3.cell? ⟨w.heap.size + 1, 14, none⟩ = some (.int .u8 (x14.toNat : Int)) := cellOf e1 14 _ rfl
  have c15 : w3.cell? ⟨w.heap.size + 1, 15, none⟩ = some (.int .u8 (x15.toNat : Int)) := cellOf e1 15 _ rfl
  have d0 : w3.cell? ⟨w.heap.size, 0, none⟩ = some (.int .u8 0) := cellOf e0 0 _ rfl
  have f0 := freeOf e0 0
  have d1 : w3.cell? ⟨w.heap.size, 1, none⟩ = some (.int .u8 0) := cellOf e0 1 _ rfl
  have f1 := freeOf e0 1
  have d2 : w3.cell? ⟨w.heap.size, 2, none⟩ = some (.int .u8 0) := cellOf e0 2 _ rfl
  have f2 := freeOf e0 2
  have d3 : w3.cell? ⟨w.heap.size, 3, none⟩ = some (.int .u8 0) := cellOf e0 3 _ rfl
  have f3 := freeOf e0 3
  have d4 : w3.cell? ⟨w.heap.size, 4, none⟩ = some (.int .u8 0) := cellOf e0 4 _ rfl
  have f4 := freeOf e0 4
  have d5 : w3.cell? ⟨w.heap.size, 5, none⟩ = some (.int .u8 0) := cellOf e0 5 _ rfl
  have f5 := freeOf e0 5
  have d6 : w3.cell? ⟨w.heap.size, 6, none⟩ = some (.int .u8 0) := cellOf e0 6 _ rfl
  have f6 := freeOf e0 6
  have d7 : w3.cell? ⟨w.heap.size, 7, none⟩ = some (.int .u8 0) := cellOf e0 7 _ rfl
  have f7 := freeOf e0 7
  have d8 : w3.cell? ⟨w.heap.size, 8, none⟩ = some (.int .u8 0) := cellOf e0 8 _ rfl
  have f8 := freeOf e0 8
  have d9 : w3.cell? ⟨w.heap.size, 9, none⟩ = some (.int .u8 0) := cellOf e0 9 _ rfl
  have f9 := freeOf e0 9
  have d10 : w3.cell? ⟨w.heap.size, 10, none⟩ = some (.int .u8 0) := cellOf e0 10 _ rfl
  have f10 := freeOf e0 10
  have d11 : w3.cell? ⟨w.heap.size, 11, none⟩ = some (.int .u8 0) := cellOf e0 11 _ rfl
  have f11 := freeOf e0 11
  have d12 : w3.cell? ⟨w.heap.size, 12, none⟩ = some (.int .u8 0) := cellOf e0 12 _ rfl
  have f12 := freeOf e0 12
  have d13 : w3.cell? ⟨w.heap.size, 13, none⟩ = some (.int .u8 0) := cellOf e0 13 _ rfl
  have f13 := freeOf e0 13
  have d14 : w3.cell? ⟨w.heap.size, 14, none⟩ = some (.int .u8 0) := cellOf e0 14 _ rfl
  have f14 := freeOf e0 14
  have d15 : w3.cell? ⟨w.heap.size, 15, none⟩ = some (.int .u8 0) := cellOf e0 15 _ rfl
  have f15 := freeOf e0 15
  have E0 : Hid _ := e0
  clear e0 e1
  go_wp2_with fail
  have hq : ((((((((((((((((w3.setCell ⟨w.heap.size, 0, none⟩ (.int .u8 (x0.toNat : Int))).setCell ⟨w.heap.size, 1, none⟩ (.int .u8 (x1.toNat : Int))).setCell ⟨w.heap.size, 2, none⟩ (.int .u8 (x2.toNat : Int))).setCell ⟨w.heap.size, 3, none⟩ (.int .u8 (x3.toNat : Int))).setCell ⟨w.heap.size, 4, none⟩ (.int .u8 (x4.toNat : Int))).setCell ⟨w.heap.size, 5, none⟩ (.int .u8 (x5.toNat : Int))).setCell ⟨w.heap.size, 6, none⟩ (.int .u8 (x6.toNat : Int))).setCell ⟨w.heap.size, 7, none⟩ (.int .u8 (x7.toNat : Int))).setCell ⟨w.heap.size, 8, none⟩ (.int .u8 (x8.toNat : Int))).setCell ⟨w.heap.size, 9, none⟩ (.int .u8 (x9.toNat : Int))).setCell ⟨w.heap.size, 10, none⟩ (.int .u8 (x10.toNat : Int))).setCell ⟨w.heap.size, 11, none⟩ (.int .u8 (x11.toNat : Int))).setCell ⟨w.heap.size, 12, none⟩ (.int .u8 (x12.toNat : Int))).setCell ⟨w.heap.size, 13, none⟩ (.int .u8 (x13.toNat : Int))).setCell ⟨w.heap.size, 14, none⟩ (.int .u8 (x14.toNat : Int))).setCell ⟨w.heap.size, 15, none⟩ (.int .u8 (x15.toNat : Int))).heap[w.heap.size]? = some (.cells #[.int .u8 (x0.toNat : Int), .int .u8 (x1.toNat : Int), .int .u8 (x2.toNat : Int), .int .u8 (x3.toNat : Int), .int .u8 (x4.toNat : Int), .int .u8 (x5.toNat : Int), .int .u8 (x6.toNat : Int), .int .u8 (x7.toNat : Int), .int .u8 (x8.toNat : Int), .int .u8 (x9.toNat : Int), .int .u8 (x10.toNat : Int), .int .u8 (x11.toNat : Int), .int .u8 (x12.toNat : Int), .int .u8 (x13.toNat : Int), .int .u8 (x14.toNat : Int), .int .u8 (x15.toNat : Int)] 148 (0, 0)) := (setAll_heap (w := w3) (b := w.heap.size) (pre := []) (post := []) (xs := [.int .u8 (x0.toNat : Int), .int .u8 (x1.toNat : Int), .int .u8 (x2.toNat : Int), .int .u8 (x3.toNat : Int), .int .u8 (x4.toNat : Int), .int .u8 (x5.toNat : Int), .int .u8 (x6.toNat : Int), .int .u8 (x7.toNat : Int), .int .u8 (x8.toNat : Int), .int .u8 (x9.toNat : Int), .int .u8 (x10.toNat : Int), .int .u8 (x11.toNat : Int), .int .u8 (x12.toNat : Int), .int .u8 (x13.toNat : Int), .int .u8 (x14.toNat : Int), .int .u8 (x15.toNat : Int)]) (old := List.replicate 16 (.int .u8 0)) rfl E0.out).1
  have kq : Keep [w.heap.size] w3 ((((((((((((((((w3.setCell ⟨w.heap.size, 0, none⟩ (.int .u8 (x0.toNat : Int))).setCell ⟨w.heap.size, 1, none⟩ (.int .u8 (x1.toNat : Int))).setCell ⟨w.heap.size, 2, none⟩ (.int .u8 (x2.toNat : Int))).setCell ⟨w.heap.size, 3, none⟩ (.int .u8 (x3.toNat : Int))).setCell ⟨w.heap.size, 4, none⟩ (.int .u8 (x4.toNat : Int))).setCell ⟨w.heap.size, 5, none⟩ (.int .u8 (x5.toNat : Int))).setCell ⟨w.heap.size, 6, none⟩ (.int .u8 (x6.toNat : Int))).setCell ⟨w.heap.size, 7, none⟩ (.int .u8 (x7.toNat : Int))).setCell ⟨w.heap.size, 8, none⟩ (.int .u8 (x8.toNat : Int))).setCell ⟨w.heap.size, 9, none⟩ (.int .u8 (x9.toNat : Int))).setCell ⟨w.heap.size, 10, none⟩ (.int .u8 (x10.toNat : Int))).setCell ⟨w.heap.size, 11, none⟩ (.int .u8 (x11.toNat : Int))).setCell ⟨w.heap.size, 12, none⟩ (.int .u8 (x12.toNat : Int))).setCell ⟨w.heap.size, 13, none⟩ (.int .u8 (x13.toNat : Int))).setCell ⟨w.heap.size, 14, none⟩ (.int .u8 (x14.toNat : Int))).setCell ⟨w.heap.size, 15, none⟩ (.int .u8 (x15.toNat : Int))) := (setAll_heap (w := w3) (b := w.heap.size) (pre := []) (post := []) (xs := [.int .u8 (x0.toNat : Int), .int .u8 (x1.toNat : Int), .int .u8 (x2.toNat : Int), .int .u8 (x3.toNat : Int), .int .u8 (x4.toNat : Int), .int .u8 (x5.toNat : Int), .int .u8 (x6.toNat : Int), .int .u8 (x7.toNat : Int), .int .u8 (x8.toNat : Int), .int .u8 (x9.toNat : Int), .int .u8 (x10.toNat : Int), .int .u8 (x11.toNat : Int), .int .u8 (x12.toNat : Int), .int .u8 (x13.toNat : Int), .int .u8 (x14.toNat : Int), .int .u8 (x15.toNat : Int)]) (old := List.replicate 16 (.int .u8 0)) rfl E0.out).2
  clear c0 d0 f0 c1 d1 f1 c2 d2 f2 c3 d3 f3 c4 d4 f4 c5 d5 f5 c6 d6 f6 c7 d7 f7 c8 d8 f8 c9 d9 f9 c10 d10 f10 c11 d11 f11 c12 d12 f12 c13 d13 f13 c14 d14 f14 c15 d15 f15
  have r0 := cellOf hq 0 (.int .u8 (x0.toNat : Int)) rfl
  have r1 := cellOf hq 1 (.int .u8 (x1.toNat : Int)) rfl
  have r2 := cellOf hq 2 (.int .u8 (x2.toNat : Int)) rfl
  have r3 := cellOf hq 3 (.int .u8 (x3.toNat : Int)) rfl
  have r4 := cellOf hq 4 (.int .u8 (x4.toNat : Int)) rfl
  have r5 := cellOf hq 5 (.int .u8 (x5.toNat : Int)) rfl
  have r6 := cellOf hq 6 (.int .u8 (x6.toNat : Int)) rfl
  have r7 := cellOf hq 7 (.int .u8 (x7.toNat : Int)) rfl
  have r8 := cellOf hq 8 (.int .u8 (x8.toNat : Int)) rfl
  have r9 := cellOf hq 9 (.int .u8 (x9.toNat : Int)) rfl
  have r10 := cellOf hq 10 (.int .u8 (x10.toNat : Int)) rfl
  have r11 := cellOf hq 11 (.int .u8 (x11.toNat : Int)) rfl
  have r12 := cellOf hq 12 (.int .u8 (x12.toNat : Int)) rfl
  have r13 := cellOf hq 13 (.int .u8 (x13.toNat : Int)) rfl
  have r14 := cellOf hq 14 (.int .u8 (x14.toNat : Int)) rfl
  have r15 := cellOf hq 15 (.int .u8 (x15.toNat : Int)) rfl
  refine bodyPost_ret (v := .agg #[.int .u8 (x0.toNat : Int), .int .u8 (x1.toNat : Int), .int .u8 (x2.toNat : Int), .int .u8 (x3.toNat : Int), .int .u8 (x4.toNat : Int), .int .u8 (x5.toNat : Int), .int .u8 (x6.toNat : Int), .int .u8 (x7.toNat : Int), .int .u8 (x8.toNat : Int), .int .u8 (x9.toNat : Int), .int .u8 (x10.toNat : Int), .int .u8 (x11.toNat : Int), .int .u8 (x12.toNat : Int), .int .u8 (x13.toNat : Int), .int .u8 (x14.toNat : Int), .int .u8 (x15.toNat : Int)]) (by simp [results, Tryz.results210, go_sem, r0, r1, r2, r3, r4, r5, r6, r7, r8, r9, r10, r11, r12, r13, r14, r15]) rfl ⟨?_, ?_, ?_⟩
  · simp only [rdUuid, HX.out]; rfl
  · exact hrd.keepA (hG.mono k3.size) (Nat.lt_of_lt_of_le hlt k3.size) kq (by intro k hk hg; simp at hk; subst hk; have := hG _ hg; omega) (by simp; omega)
  · exact (((k3.weaken (B := [b, w.heap.size]) (by simp)).trans (kq.weaken (by simp))).fresh (by simp))
end Go.Proofs.YtobbchmjgoaleaaGreatDoor
