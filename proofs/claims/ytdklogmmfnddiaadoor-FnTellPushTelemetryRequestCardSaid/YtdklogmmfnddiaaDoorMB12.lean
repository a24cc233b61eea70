/-
  Reader.CompactNullableBytes, with what is nil and what is not.
-/
import Derived.Test.YtdklogmmfnddiaaDoorMB7
import Derived.Test.YtdklogmmfnddiaaDoorMB5
import Derived.Test.YtdklogmmfnddiaaDoorMB9
import Derived.Test.YtdklogmmfnddiaaDoorMB10
import Derived.Test.YtdklogmmfnddiaaDoorMB11
import Derived.Test.YtdklogmmfnddiaaDoorMB2
namespace Go.Proofs.YtdklogmmfnddiaaDoor
open Go.ChangeShapes Go.WideShapes Go.ChangeAt Go.RowKit

set_option maxHeartbeats 400000 in
set_option maxRecDepth 100000 in
theorem rduv_some {G : Nat → Prop} {b : Nat} {s : St} {w : World} (h : Rd w b G s) (_hG : There G w) (hb : ¬ G b) :
    Calls Tryd.prog 72 #[.pointer (some ⟨b, 0, none⟩)] w fun e w' => e = .returned (.int .u32 ((rdUv s).1 : Int)) ∧ Rd w' b G (rdUv s).2 ∧ Keep [b] w w' ∧ ((rdUv s).2.2 = false → SrcSome w' b) := by
  obtain ⟨src, bad⟩ := s
  obtain ⟨v, hh, hr, hz⟩ := h
  obtain ⟨ao, cap, rfl⟩ := RS.shape hr
  have c0 : w.cell? ⟨b, 0, none⟩ = some (.slice ao src.length cap) := cellOf hh 0 _ rfl
  have c1 : w.cell? ⟨b, 1, none⟩ = some (.bool bad) := cellOf hh 1 _ rfl
  have f0 := freeOf hh 0
  have f1 := freeOf hh 1
  obtain ⟨hp1, hp2, hp3⟩ := uvP_lt src
  have UV := uvarint_any hr
  go_enter Tryd.func72, Tryd.ntmps72
  have HH : Hid _ := hh
  clear hh
  generalize hu : uvP src = u at *
  obtain ⟨val, n⟩ := u
  have HU : Hid _ := hu
  simp only at hp1 hp2 hp3 UV
  by_cases hn : n ≤ 0
  · go_wp2_with (go_at_call 81; refine UV.mono ?_; rintro e w1 ⟨rfl, rfl⟩)
    go_ret
    have e : rdUv (src, bad) = (0, ([], true)) := by unfold rdUv; simp only [HU.out, hn, if_true]
    exact ⟨by rw [e]; rfl, ⟨.slice none 0 0, by rw [e]; exact heap_set (heap_set HH.out _) _, by rw [e]; exact RB.nil _ _, fun _ => rfl⟩, ((Keep.refl _ _).setCell (.inl (by simp)) _).setCell (.inl (by simp)) _, fun h => by rw [e] at h; cases h⟩
  · obtain ⟨m, rfl⟩ := Int.eq_ofNat_of_zero_le (show 0 ≤ n by omega)
    have e : rdUv (src, bad) = (val, (src.drop m, bad)) := by unfold rdUv; simp only [HU.out, if_neg hn]; simp
    have hpos : 0 < src.length := by omega
    obtain ⟨bs, o, rfl, hGb, -, hcap, -⟩ := hr.spot hpos
    have E : Hid _ := e
    clear e
    have hs : ∀ x, SameOn G w (w.setCell ⟨b, 0, none⟩ x) := fun x k hk => Below.heap_setCell _ _ _ _ (fun e => hb (by simp only at e; rw [← e]; exact hk))
    by_cases hm : m = cap
    · subst hm
      go_wp2_with (go_at_call 81; refine UV.mono ?_; rintro e w1 ⟨rfl, rfl⟩)
      refine bodyPost_ret (v := .int .u32 (val : Int)) (by simp [results, Tryd.results72, go_sem]) rfl ⟨by rw [E.out], ⟨.slice (some ⟨bs, o, none⟩) 0 0, ?_, ?_, fun e => absurd (hz.out (by rw [E.out] at e; exact e)) (by simp)⟩, (Keep.refl _ _).setCell (.inl (by simp)) _, fun _ => ⟨_, _, _, _, heap_set HH.out _⟩⟩
      · rw [E.out]
        have hl0 : src.length - m = 0 := by omega
        exact heap_set HH.out _
      · rw [E.out]
        have hl : src.drop m = [] := List.drop_eq_nil_of_le (by omega)
        simp only [hl]
        exact RB.none0 _ _ _ _ _
    · go_wp2_with (go_at_call 81; refine UV.mono ?_; rintro e w1 ⟨rfl, rfl⟩)
      refine bodyPost_ret (v := .int .u32 (val : Int)) (by simp [results, Tryd.results72, go_sem]) rfl ⟨by rw [E.out], ⟨.slice (some ⟨bs, o + m, none⟩) (src.length - m) (cap - m), ?_, ?_, fun e => absurd (hz.out (by rw [E.out] at e; exact e)) (by simp)⟩, (Keep.refl _ _).setCell (.inl (by simp)) _, fun _ => ⟨_, _, _, _, heap_set HH.out _⟩⟩
      · rw [E.out]
        exact heap_set HH.out _
      · rw [E.out]
        exact (hr.drop m _ _ (by omega) rfl rfl).keepF (hs _) (fun _ h => h)
set_option maxHeartbeats 400000 in
set_option maxRecDepth 100000 in
theorem span_some {G : Nat → Prop} {b : Nat} {s : St} {w : World} {n : Int} (h : Rd w b G s) (hb : ¬ G b) (hsm : s.2 = false → SrcSome w b) :
    Calls Tryd.prog 74 #[.pointer (some ⟨b, 0, none⟩), .int .i64 n] w fun e w' => ∃ v, e = .returned v ∧ RB w' G v (rdSpan n s).1 ∧ Rd w' b G (rdSpan n s).2 ∧ Keep [b] w w' ∧ ((rdSpan n s).2.2 = false → v ≠ .slice none 0 0) ∧ ((rdSpan n s).2.2 = true → v = .slice none 0 0) := by
  obtain ⟨src, bad⟩ := s
  obtain ⟨v, hh, hr, hz⟩ := h
  obtain ⟨ao, cap, rfl⟩ := RS.shape hr
  have c0 : w.cell? ⟨b, 0, none⟩ = some (.slice ao src.length cap) := cellOf hh 0 _ rfl
  have c1 : w.cell? ⟨b, 1, none⟩ = some (.bool bad) := cellOf hh 1 _ rfl
  have f0 := freeOf hh 0
  have f1 := freeOf hh 1
  have HH : Hid _ := hh
  clear hh
  go_enter Tryd.func74, Tryd.ntmps74
  have hcap : src.length ≤ cap := by
    obtain ⟨_, _, e, h, _⟩ := hr
    cases e
    exact h
  by_cases h1 : (src.length : Int) < n
  · go_wp2_with fail
    go_ret
    exact ⟨_, rfl, by simp only [rdSpan, h1, true_or, if_true]; exact RB.nil _ _, ⟨.slice none 0 0, by simp only [rdSpan, h1, true_or, if_true]; exact heap_set (heap_set HH.out _) _, by simp only [rdSpan, h1, true_or, if_true]; exact RB.nil _ _, fun _ => rfl⟩, ((Keep.refl _ _).setCell (.inl (by simp)) _).setCell (.inl (by simp)) _, (fun h => by simp [rdSpan, h1] at h), fun _ => rfl⟩
  by_cases h2 : n < 0
  · go_wp2_with fail
    go_ret
    exact ⟨_, rfl, by simp only [rdSpan, h2, or_true, if_true]; exact RB.nil _ _, ⟨.slice none 0 0, by simp only [rdSpan, h2, or_true, if_true]; exact heap_set (heap_set HH.out _) _, by simp only [rdSpan, h2, or_true, if_true]; exact RB.nil _ _, fun _ => rfl⟩, ((Keep.refl _ _).setCell (.inl (by simp)) _).setCell (.inl (by simp)) _, (fun h => by simp [rdSpan, h2] at h), fun _ => rfl⟩
  obtain ⟨m, rfl⟩ := Int.eq_ofNat_of_zero_le (Int.not_lt.1 h2)
  have h3 : m ≤ src.length := by omega
  have e : rdSpan (m : Int) (src, bad) = (src.take m, (src.drop m, bad)) := by
    unfold rdSpan
    rw [if_neg (by simp only; omega)]
    simp
  have E : Hid _ := e
  clear e h1 h2
  cases ao with
  | none =>
    have hn : src = [] ∧ cap = 0 := by
      obtain ⟨_, _, e, _, h, _⟩ := hr
      cases e
      exact ⟨List.eq_nil_of_length_eq_zero (h rfl).1, (h rfl).2.1⟩
    obtain ⟨rfl, rfl⟩ := hn
    obtain rfl : m = 0 := by simpa using h3
    go_wp2_with fail
    go_ret
    have e := E.out
    simp only [List.take_nil, List.drop_nil] at e
    exact ⟨_, rfl, by rw [show rdSpan 0 ([], bad) = _ from e]; exact RB.nil _ _, ⟨.slice none 0 0, by rw [show rdSpan 0 ([], bad) = _ from e]; exact heap_set HH.out _, by rw [show rdSpan 0 ([], bad) = _ from e]; exact RB.nil _ _, fun _ => rfl⟩, (Keep.refl _ _).setCell (.inl (by simp)) _, (fun h => by
      rw [show rdSpan 0 ([], bad) = _ from e] at h
      obtain ⟨a, n, c, bd, h4⟩ := hsm h
      rw [HH.out] at h4
      cases h4), fun _ => rfl⟩
  | some a =>
    obtain ⟨bs, o, sp⟩ := a
    have hsp : 0 < src.length → sp = none := by
      obtain ⟨_, _, e, _, _, h⟩ := hr
      cases e
      exact fun h0 => (h _ rfl).1 (by simpa using h0)
    cases sp with
    | some s =>
      have h0 : src = [] := List.eq_nil_of_length_eq_zero (Nat.eq_zero_of_not_pos fun h0 => by cases hsp h0)
      subst h0
      obtain rfl : m = 0 := by simpa using h3
      have e := E.out
      simp only [List.take_nil, List.drop_nil] at e
      have e2 : Hid _ := e
      clear e
      by_cases hc : 0 = cap
      · subst hc
        go_wp2_with fail
        refine bodyPost_ret (v := .slice (some ⟨bs, o, some s⟩) 0 0) (by simp [results, Tryd.results74, go_sem]) rfl ⟨_, rfl, ?_, ⟨.slice (some ⟨bs, o, some s⟩) 0 0, ?_, ?_, fun e => absurd (hz.out (by rw [show rdSpan 0 ([], bad) = _ from e2.out] at e; exact e)) (by simp)⟩, (Keep.refl _ _).setCell (.inl (by simp)) _, (fun _ h => by cases h), fun e => absurd (hz.out (by rw [show rdSpan 0 ([], bad) = _ from e2.out] at e; exact e)) (by simp)⟩
        · rw [show rdSpan 0 ([], bad) = _ from e2.out]; exact RB.empty _ _ _ _
        · rw [show rdSpan 0 ([], bad) = _ from e2.out]; exact heap_set HH.out _
        · rw [show rdSpan 0 ([], bad) = _ from e2.out]; exact RB.empty _ _ _ _
      · go_wp2_with fail
        refine bodyPost_ret (v := .slice (some ⟨bs, o, some s⟩) 0 0) (by simp [results, Tryd.results74, go_sem]) rfl ⟨_, rfl, ?_, ⟨.slice (some ⟨bs, o, some s⟩) 0 cap, ?_, ?_, fun e => absurd (hz.out (by rw [show rdSpan 0 ([], bad) = _ from e2.out] at e; exact e)) (by simp)⟩, (Keep.refl _ _).setCell (.inl (by simp)) _, (fun _ h => by cases h), fun e => absurd (hz.out (by rw [show rdSpan 0 ([], bad) = _ from e2.out] at e; exact e)) (by simp)⟩
        · rw [show rdSpan 0 ([], bad) = _ from e2.out]; exact RB.empty _ _ _ _
        · rw [show rdSpan 0 ([], bad) = _ from e2.out]; exact heap_set HH.out _
        · rw [show rdSpan 0 ([], bad) = _ from e2.out]; exact RB.empty _ _ _ _
    | none =>
    have hs : ∀ x, SameOn G w (w.setCell ⟨b, 0, none⟩ x) := fun x k hk => Below.heap_setCell _ _ _ _ (fun e => hb (by simp only at e; rw [← e]; exact hk))
    by_cases hc : m = cap
    · subst hc
      have hl : src.drop m = [] := List.drop_eq_nil_of_le hcap
      have hl2 : src.length - m = 0 := by omega
      go_wp2_with fail
      refine bodyPost_ret (v := .slice (some ⟨bs, o, none⟩) m m) (by simp [results, Tryd.results74, go_sem]) rfl ⟨_, rfl, ?_, ⟨.slice (some ⟨bs, o, none⟩) 0 0, ?_, ?_, fun e => absurd (hz.out (by rw [E.out] at e; exact e)) (by simp)⟩, (Keep.refl _ _).setCell (.inl (by simp)) _, (fun _ h => by cases h), fun e => absurd (hz.out (by rw [E.out] at e; exact e)) (by simp)⟩
      · rw [E.out]; exact (hr.cut m h3).keepF (hs _) (fun _ h => h)
      · rw [E.out]; exact heap_set HH.out _
      · rw [E.out]; simp only [hl]; exact RB.none0 _ _ _ _ _
    · go_wp2_with fail
      refine bodyPost_ret (v := .slice (some ⟨bs, o, none⟩) m m) (by simp [results, Tryd.results74, go_sem]) rfl ⟨_, rfl, ?_, ⟨.slice (some ⟨bs, o + m, none⟩) (src.length - m) (cap - m), ?_, ?_, fun e => absurd (hz.out (by rw [E.out] at e; exact e)) (by simp)⟩, (Keep.refl _ _).setCell (.inl (by simp)) _, (fun _ h => by cases h), fun e => absurd (hz.out (by rw [E.out] at e; exact e)) (by simp)⟩
      · rw [E.out]; exact (hr.cut m h3).keepF (hs _) (fun _ h => h)
      · rw [E.out]; exact heap_set HH.out _
      · rw [E.out]; exact (hr.drop m _ _ h3 rfl rfl).keepF (hs _) (fun _ h => h)
def rdCNB (s : St) : Option Bs × St := if (rdUv s).1 = 0 then (none, (rdUv s).2) else (some (rdSpan ((rdUv s).1 - 1) (rdUv s).2).1, (rdSpan ((rdUv s).1 - 1) (rdUv s).2).2)
/-- octets, or nil -/
def OS (w : World) (G : Nat → Prop) (v : Value) (o : Option Bs) : Prop := RB w G v (o.getD []) ∧ (v = .slice none 0 0 ↔ o = none)
/-- a span, nil where it is bad -/
def rdSpO (n : Int) (s : St) : Option Bs × St := (if (rdSpan n s).2.2 then none else some (rdSpan n s).1, (rdSpan n s).2)
def rdBy (s : St) : Option Bs × St := if (rdI 4 s).1 = -1 then (some [], (rdI 4 s).2) else rdSpO (rdI 4 s).1 (rdI 4 s).2
def rdNBy (s : St) : Option Bs × St := if (rdI 4 s).1 < 0 then (none, (rdI 4 s).2) else rdSpO (rdI 4 s).1 (rdI 4 s).2
def rdCBy (s : St) : Option Bs × St := if (rdUv s).1 = 0 then (some [], (rdUv s).2) else rdSpO ((rdUv s).1 - 1) (rdUv s).2
def rdCNBy (s : St) : Option Bs × St := if (rdUv s).1 = 0 then (none, (rdUv s).2) else rdSpO ((rdUv s).1 - 1) (rdUv s).2
theorem OS.of_span {w : World} {G : Nat → Prop} {v : Value} {n : Int} {s : St} (h : RB w G v (rdSpan n s).1) (n2 : (rdSpan n s).2.2 = false → v ≠ .slice none 0 0) (n3 : (rdSpan n s).2.2 = true → v = .slice none 0 0) : OS w G v (rdSpO n s).1 := by
  unfold rdSpO
  cases e : (rdSpan n s).2.2
  · exact ⟨h, by simp [n2 e]⟩
  · rw [n3 e]
    exact ⟨RB.nil _ _, by simp⟩
theorem OS.empty (w : World) (G : Nat → Prop) (a : Addr) (c : Nat) : OS w G (.slice (some a) 0 c) (some []) := ⟨RB.empty _ _ _ _, by simp⟩
theorem OS.nought (w : World) (G : Nat → Prop) : OS w G (.slice none 0 0) none := ⟨RB.nil _ _, by simp⟩
theorem Rd.keepW' {w w' : World} {b : Nat} {G : Nat → Prop} {s : St} (h : Rd w b G s) (hG : There G w) (hk : Keep [] w w') : Rd w' b G s := by
  obtain ⟨v, h1, h2, h3⟩ := h
  exact ⟨v, (hk.block b (Array.getElem?_eq_some_iff.1 h1).1 (by simp)).trans h1, h2.keepF (hG.same hk) (fun _ h => h), h3⟩
set_option maxHeartbeats 400000 in
set_option maxRecDepth 100000 in
theorem by_any {G : Nat → Prop} {b : Nat} {s : St} {w : World} (h : Rd w b G s) (hG : There G w) (hb : ¬ G b) :
    Calls Tryd.prog 69 #[.pointer (some ⟨b, 0, none⟩)] w fun e w' => ∃ v, e = .returned v ∧ OS w' G v (rdBy s).1 ∧ Rd w' b G (rdBy s).2 ∧ Keep [b] w w' := by
  have hR1 : -2147483648 ≤ (rdI 4 s).1 := (rdI_range4 _).1
  have hR2 : (rdI 4 s).1 ≤ 2147483647 := (rdI_range4 _).2
  by_cases hc : (rdI 4 s).1 = -1
  · have E : Hid (rdBy s = (some [], (rdI 4 s).2)) := (by unfold rdBy; rw [if_pos hc] : rdBy s = (some [], (rdI 4 s).2))
    go_enter Tryd.func69, Tryd.ntmps69
    go_wp2_with (go_at_call 57; go_loud (refine (int32_any h hG hb).mono ?_; rintro e w1 ⟨rfl, h1, k1⟩))
    go_ret
    rw [E.out]
    exact ⟨_, rfl, OS.empty _ _ _ _, h1.keepW' (hG.mono k1.size) (by exact keep_box _), k1.alloc _⟩
  · have E : Hid (rdBy s = rdSpO (rdI 4 s).1 (rdI 4 s).2) := (by unfold rdBy; rw [if_neg hc] : rdBy s = rdSpO (rdI 4 s).1 (rdI 4 s).2)
    go_enter Tryd.func69, Tryd.ntmps69
    go_wp2_with (first
      | (go_at_call 57; go_loud (refine (i32_some h hG hb).mono ?_; rintro e w1 ⟨rfl, h1, k1, n1⟩))
      | (go_at_call 74; go_loud (refine (span_some h1 hb n1).mono ?_; rintro e w2 ⟨v, rfl, hv, h2, k2, n2, n3⟩)))
    go_ret
    rw [E.out]
    exact ⟨_, rfl, OS.of_span hv n2 n3, h2, k1.trans k2⟩
set_option maxHeartbeats 400000 in
set_option maxRecDepth 100000 in
theorem cby_any {G : Nat → Prop} {b : Nat} {s : St} {w : World} (h : Rd w b G s) (hG : There G w) (hb : ¬ G b) :
    Calls Tryd.prog 68 #[.pointer (some ⟨b, 0, none⟩)] w fun e w' => ∃ v, e = .returned v ∧ OS w' G v (rdCBy s).1 ∧ Rd w' b G (rdCBy s).2 ∧ Keep [b] w w' := by
  have hR2 : (rdUv s).1 < 4294967296 := rdUv_lt s
  by_cases hc : (rdUv s).1 = 0
  · have E : Hid (rdCBy s = (some [], (rdUv s).2)) := (by unfold rdCBy; rw [if_pos hc] : rdCBy s = (some [], (rdUv s).2))
    go_enter Tryd.func68, Tryd.ntmps68
    go_wp2_with (go_at_call 72; go_loud (refine (rduv_any h hG hb).mono ?_; rintro e w1 ⟨rfl, h1, k1⟩))
    go_ret
    rw [E.out]
    exact ⟨_, rfl, OS.empty _ _ _ _, h1.keepW' (hG.mono k1.size) (by exact keep_box _), k1.alloc _⟩
  · have E : Hid (rdCBy s = rdSpO ((rdUv s).1 - 1) (rdUv s).2) := (by unfold rdCBy; rw [if_neg hc] : rdCBy s = rdSpO ((rdUv s).1 - 1) (rdUv s).2)
    go_enter Tryd.func68, Tryd.ntmps68
    go_wp2_with (first
      | (go_at_call 72; go_loud (refine (rduv_some h hG hb).mono ?_; rintro e w1 ⟨rfl, h1, k1, n1⟩))
      | (go_at_call 74; go_loud (refine (span_some h1 hb n1).mono ?_; rintro e w2 ⟨v, rfl, hv, h2, k2, n2, n3⟩)))
    go_ret
    rw [E.out]
    exact ⟨_, rfl, OS.of_span hv n2 n3, h2, k1.trans k2⟩
end Go.Proofs.YtdklogmmfnddiaaDoor
/-
  kbin.AppendCompactString, AppendNullableString, .. , the lengths of lists, octets: onto octets of the call's own.
-/
namespace Go.Proofs.YtdklogmmfnddiaaDoor
open Go.ChangeShapes Go.WideShapes Go.ChangeAt Go.RowKit

def nstrP : Option Bs → Bs
  | none => fixedP (-1) 2
  | some s => fixedP s.length 2 ++ s
def cnstrP : Option Bs → Bs
  | none => [0]
  | some s => uvarP (s.length + 1) ++ s
theorem cast1 (n : Nat) : ((1 + n : Nat) : Int) = 1 + (n : Int) := by omega
theorem uvar0 : uvarP 0 = [0] := by rw [uvarP_small (by omega)]; rfl
theorem wrap_i32s (n : Nat) (h : n ≤ 1000000) : IntKind.i32.wrap (n : Int) = n := by rw [IntKind.wrap_i32]; omega
end Go.Proofs.YtdklogmmfnddiaaDoor
/-
  kbin.AppendUuid: onto octets of the call's own.
-/
namespace Go.Proofs.YtdklogmmfnddiaaDoor
open Go.ChangeShapes Go.WideShapes Go.ChangeAt Go.RowKit

theorem rb_own {W : World} {b : Nat} {x : Bs} {t : TypeId} (h : W.heap[b]? = some (.cells (x.map bv).toArray t (0, 0))) : RB W (fun k => k = b) (.slice (some ⟨b, 0, none⟩) x.length x.length) x := by
  refine ⟨_, _, rfl, Nat.le_refl _, (fun h => by cases h), fun a ha => ?_⟩
  cases ha
  refine ⟨fun _ => rfl, fun i hi => ⟨rfl, ?_⟩⟩
  simp only [World.cell?, h, Option.isSome_none, Bool.false_eq_true, if_false, Nat.zero_add]
  rw [List.getElem?_toArray]
  exact List.getElem?_eq_getElem hi
end Go.Proofs.YtdklogmmfnddiaaDoor
/-
  HOW FAR A MESSAGE HAS BEEN READ: the reader, the message's block, and what stays.
-/
namespace Go.Proofs.YtdklogmmfnddiaaDoor
open Go.ChangeShapes Go.WideShapes Go.ChangeAt Go.RowKit

theorem World.heap_lt {w : World} {b : Nat} {o : Obj} (h : w.heap[b]? = some o) : b < w.heap.size := (Array.getElem?_eq_some_iff.1 h).1
/-- the call began in w; the reader's block is new -/
structure RdSt (w U : World) (b rb : Nat) (G : Nat → Prop) (s : St) (arr : Array Value) (t : TypeId) : Prop where
  rd : Rd U rb G s
  blk : U.heap[b]? = some (.cells arr t (0, 0))
  keep : Keep [b] w U
  there : There G w
  nb : ¬ G b
  lt : b < w.heap.size
  new : w.heap.size ≤ rb
namespace RdSt
variable {w U U' : World} {b rb j : Nat} {G : Nat → Prop} {s s' : St} {arr : Array Value} {t : TypeId} {v : Value}
theorem hG (h : RdSt w U b rb G s arr t) : There G U := h.there.mono h.keep.size
theorem nrb (h : RdSt w U b rb G s arr t) : ¬ G rb := fun e => by have := h.there _ e; have := h.new; omega
theorem call (h : RdSt w U b rb G s arr t) (r : Rd U' rb G s') (k : Keep [rb] U U') : RdSt w U' b rb G s' arr t := by
  have hn := h.new
  have hl := h.lt
  have hs := h.keep.size
  refine ⟨r, (k.block b (by omega) (by simp; omega)).trans h.blk, ?_, h.there, h.nb, hl, hn⟩
  exact ((h.keep.weaken (B := [b, rb]) (by simp)).trans (k.weaken (by simp))).fresh (by simp; omega)
theorem calm (h : RdSt w U b rb G s arr t) (k : Keep [] U U') : RdSt w U' b rb G s arr t := by
  have hl := h.lt
  have hs := h.keep.size
  exact ⟨h.rd.keepW h.hG h.rd.lt' k, (k.block b (by omega) (by simp)).trans h.blk, h.keep.trans (k.weaken (by simp)), h.there, h.nb, hl, h.new⟩
theorem set (h : RdSt w U b rb G s arr t) (j : Nat) (v : Value) : RdSt w (U.setCell ⟨b, j, none⟩ v) b rb G s (arr.setIfInBounds j v) t := by
  have hn := h.new
  have hl := h.lt
  have k : Keep [b] U (U.setCell ⟨b, j, none⟩ v) := (Keep.refl _ _).setCell (.inl (by simp)) _
  refine ⟨h.rd.keepA h.hG h.rd.lt' k (by intro i hi; simp at hi; subst hi; exact h.nb) (by simp; omega), heap_set h.blk v, h.keep.trans k, h.there, h.nb, hl, hn⟩
theorem cell (h : RdSt w U b rb G s arr t) (j : Nat) (v : Value) (hv : arr[j]? = some v) : U.cell? ⟨b, j, none⟩ = some v := cellOf h.blk j v hv
theorem free (h : RdSt w U b rb G s arr t) (j : Nat) : U.frozen? ⟨b, j, none⟩ = false := freeOf h.blk j
theorem mp {W Z : World} {v : Value} {l : List Tg} (h : RdSt w U b rb G s arr t) (m : MP W (New G U W) v l) (k : Keep [b] W Z) : MP Z (New G w Z) v l := by
  have hl := h.lt
  have hu := h.keep.size
  have hz := k.size
  refine m.keepF (fun i hi => k.block i hi.2 ?_) (fun i hi => ⟨hi.1.imp id (fun e => by omega), by have := hi.2; omega⟩)
  simp
  rintro rfl
  rcases hi.1 with e | e
  · exact h.nb e
  · omega
theorem ps {W Z : World} {v : Value} {o : Option Bs} (h : RdSt w U b rb G s arr t) (m : PS W (fun k => U.heap.size ≤ k ∧ k < W.heap.size) v o) (k : Keep [b, rb] W Z) : PS Z (New G w Z) v o := by
  have hl := h.lt
  have hu := h.keep.size
  have hz := k.size
  have hr := h.rd.lt'
  exact m.keepF (fun i hi => k.block i hi.2 (by have := hi.1; simp; omega)) (fun i hi => ⟨.inr (by have := hi.1; omega), by have := hi.2; omega⟩)
end RdSt
theorem PS.shape {w : World} {G : Nat → Prop} {v : Value} {o : Option Bs} (h : PS w G v o) : ∃ a, v = .pointer a := by
  rcases h with ⟨rfl, _⟩ | ⟨k, l, rfl, _⟩
  · exact ⟨_, rfl⟩
  · exact ⟨_, rfl⟩
end Go.Proofs.YtdklogmmfnddiaaDoor
/-
  spec's messages as constants: readings of a block of fields.
-/
namespace Go.Proofs.YtdklogmmfnddiaaDoor
open Go.ChangeShapes Go.WideShapes Go.ChangeAt Go.RowKit

/-- a field's eight cells, its part's fields lying at v -/
abbrev fcl8 (k a b c d e o : Int) (v : Value) : List Value := [.int .i64 k, .int .i64 a, .int .i64 b, .int .i64 c, .int .i64 d, .int .i64 e, .int .i64 o, v]
theorem HF.flat (w : World) (G : Nat → Prop) (k a b c d e o : Int) : HF w G (.mk k a b c d e o []) (fcl8 k a b c d e o (.slice none 0 0)) :=
  .mk k a b c d e o [] (.slice none 0 0) [] (by simp) rfl (fun i h => by simp at h) ⟨none, 0, rfl, Nat.le_refl _, fun _ => ⟨rfl, rfl, rfl⟩, fun a h => by cases h⟩
theorem HF.deep {w : World} {G : Nat → Prop} {v : Value} {sub : List F} (k a b c d e o : Int) (h : HFs w G v sub) : HF w G (.mk k a b c d e o sub) (fcl8 k a b c d e o v) := by
  obtain ⟨cs, h1, h2, h3, h4⟩ := h
  exact .mk k a b c d e o sub v cs h3 h1 h2 h4
/-- fields and their cells, one by one -/
inductive HFL (w : World) (G : Nat → Prop) : List F → List (List Value) → Prop
  | nil : HFL w G [] []
  | cons {f : F} {c : List Value} {fs : List F} {cs : List (List Value)} : HF w G f c → HFL w G fs cs → HFL w G (f :: fs) (c :: cs)
theorem HFL.len {w : World} {G : Nat → Prop} {fs : List F} {cs : List (List Value)} (h : HFL w G fs cs) : cs.length = fs.length := by
  induction h with
  | nil => rfl
  | cons _ _ ih => simp [ih]
theorem HFL.get {w : World} {G : Nat → Prop} {fs : List F} {cs : List (List Value)} (h : HFL w G fs cs) : ∀ i (h1 : i < fs.length) (h2 : i < cs.length), HF w G fs[i] cs[i] := by
  induction h with
  | nil => intro i h1; simp at h1
  | cons hc _ ih =>
    intro i h1 h2
    cases i with
    | zero => exact hc
    | succ i => exact ih i (by simpa using h1) (by simpa using h2)
/-- a block of fields -/
theorem HFs.block {w : World} {G : Nat → Prop} {b : Nat} {fs : List F} {cs : List (List Value)} {arr : Array Value} {t : TypeId} {z : Nat × Nat} {n : Nat} (h : w.heap[b]? = some (.cells arr t z)) (hl : HFL w G fs cs) (ha : arr.toList = cs.flatten) (hG : G b) (hn : n = fs.length) (hb : n ≤ 1048576) :
    HFs w G (.slice (some ⟨b, 0, none⟩) n n) fs := by
  have hlen := hl.len
  subst hn
  refine ⟨cs, hlen, hl.get, hb, ⟨_, _, by rw [hlen], Nat.le_refl _, (fun e => by cases e), fun a e => ?_⟩⟩
  cases e
  refine ⟨fun _ => rfl, fun i hi => ⟨hG, ?_⟩⟩
  simp only [Nat.zero_add]
  refine cellOf h i _ ?_
  rw [← Array.getElem?_toList, ha, List.getElem?_eq_getElem hi]
end Go.Proofs.YtdklogmmfnddiaaDoor
/-
  How many tags may be read of so many octets, and how long they may be. Plain lemmas.
-/
namespace Go.Proofs.YtdklogmmfnddiaaDoor

theorem rdUv_len (s : St) : (rdUv s).2.1.length ≤ s.1.length ∧ ((rdUv s).1 ≠ 0 → (rdUv s).2.1.length + 1 ≤ s.1.length) := by
  have h := uvP_lt s.1
  unfold rdUv
  split
  · simp
  · rename_i hn
    simp only [List.length_drop]
    omega
theorem rdSpan_len (n : Int) (s : St) : (rdSpan n s).1.length ≤ s.1.length ∧ (rdSpan n s).2.1.length ≤ s.1.length := by
  unfold rdSpan
  split
  · simp
  · simp only [List.length_take, List.length_drop]
    omega
theorem insK_perm {α : Type} (x : Nat × α) : ∀ l : List (Nat × α), (insK x l).Perm (x :: l)
  | [] => List.Perm.refl _
  | y :: r => by
    unfold insK
    split
    · exact List.Perm.refl _
    · exact ((insK_perm x r).cons y).trans (List.Perm.swap x y r)
/-- the tags but for that of the number nought -/
def n0 (l : List Tg) : Nat := (l.filter fun x => decide (x.1 ≠ 0)).length
theorem n0_put (l : List Tg) (k : Nat) (x : Bs) : n0 (putK l k x) ≤ n0 l + (if k = 0 then 0 else 1) := by
  unfold n0 putK
  have h := ((insK_perm (k, x) (l.filter fun y => decide (y.1 ≠ k))).filter fun x => decide (x.1 ≠ 0)).length_eq
  rw [h, List.filter_cons]
  have hs : ((l.filter fun y => decide (y.1 ≠ k)).filter fun x => decide (x.1 ≠ 0)).length ≤ (l.filter fun x => decide (x.1 ≠ 0)).length := ((List.filter_sublist).filter _).length_le
  by_cases hk : k = 0
  · rw [if_neg (by simp [hk]), if_pos hk]
    exact Nat.le_trans hs (Nat.le_add_right _ _)
  · rw [if_pos (by simp [hk]), if_neg hk, List.length_cons]
    exact Nat.succ_le_succ hs
theorem n0_rising : ∀ {l : List Tg}, Rising l → l.length ≤ n0 l + 1
  | [], _ => by simp
  | y :: r, h => by
    obtain ⟨h1, _⟩ := List.pairwise_cons.1 h
    have e : r.filter (fun x => decide (x.1 ≠ 0)) = r := List.filter_eq_self.2 fun x hx => by have := h1 x hx; simp; omega
    unfold n0
    rw [List.filter_cons, e]
    split
    · simp
    · simp
theorem rdTagsN_len (B : Nat) : ∀ (n : Nat) (s : St) (l : List Tg), Rising l → (∀ x ∈ l, x.2.length ≤ B) → s.1.length ≤ B →
    n0 (rdTagsN n s l).1 ≤ n0 l + s.1.length ∧ Rising (rdTagsN n s l).1 ∧ ∀ x ∈ (rdTagsN n s l).1, x.2.length ≤ B
  | 0, s, l, h1, h2, _ => ⟨by simp [rdTagsN], h1, h2⟩
  | n + 1, s, l, h1, h2, h3 => by
    have a := rdUv_len s
    have b := rdUv_len (rdUv s).2
    have c := rdSpan_len ((rdUv (rdUv s).2).1 : Int) (rdUv (rdUv s).2).2
    have p := n0_put l (rdUv s).1 (rdSpan ((rdUv (rdUv s).2).1 : Int) (rdUv (rdUv s).2).2).1
    have ih := rdTagsN_len B n (rdSpan ((rdUv (rdUv s).2).1 : Int) (rdUv (rdUv s).2).2).2 (putK l (rdUv s).1 (rdSpan ((rdUv (rdUv s).2).1 : Int) (rdUv (rdUv s).2).2).1) (rising_putK h1 _ _)
      (fun x hx => by
        rcases mem_putK hx with rfl | hx
        · simp only; omega
        · exact h2 x hx) (by omega)
    simp only [rdTagsN]
    refine ⟨?_, ih.2⟩
    have := ih.1
    by_cases hk : (rdUv s).1 = 0
    · rw [if_pos hk] at p; omega
    · rw [if_neg hk] at p; have := a.2 hk; omega
theorem rdTags_len (s : St) : (rdTags s).1.length ≤ s.1.length + 1 ∧ ∀ x ∈ (rdTags s).1, x.2.length ≤ s.1.length := by
  have a := rdUv_len s
  have h := rdTagsN_len s.1.length (rdUv s).1 (rdUv s).2 [] rising_nil (by simp) a.1
  have r := n0_rising h.2.1
  refine ⟨?_, h.2.2⟩
  have := h.1
  have z : n0 [] = 0 := rfl
  show (rdTagsN (rdUv s).1 (rdUv s).2 []).1.length ≤ _
  omega
theorem rdN_len (k : Nat) (s : St) : (rdN k s).2.1.length ≤ s.1.length := by
  unfold rdN
  split
  · simp
  · simp
theorem rdI_len (k : Nat) (s : St) : (rdI k s).2.1.length ≤ s.1.length := rdN_len k s
theorem rdStr_len (s : St) : (rdStr s).1.length ≤ s.1.length ∧ (rdStr s).2.1.length ≤ s.1.length := by
  have a := rdI_len 2 s
  have b := rdSpan_len (rdI 2 s).1 (rdI 2 s).2
  unfold rdStr
  omega
theorem rdCStr_len (s : St) : (rdCStr s).1.length ≤ s.1.length ∧ (rdCStr s).2.1.length ≤ s.1.length := by
  have a := (rdUv_len s).1
  have b := rdSpan_len ((rdUv s).1 - 1) (rdUv s).2
  unfold rdCStr
  omega
theorem rdNStr_len (s : St) : (∀ x, (rdNStr s).1 = some x → x.length ≤ s.1.length) ∧ (rdNStr s).2.1.length ≤ s.1.length := by
  have a := rdI_len 2 s
  have b := rdStr_len s
  unfold rdNStr
  split
  · exact ⟨(fun x h => by cases h), a⟩
  · exact ⟨(fun x h => by cases h; exact b.1), b.2⟩
theorem rdCNStr_len (s : St) : (∀ x, (rdCNStr s).1 = some x → x.length ≤ s.1.length) ∧ (rdCNStr s).2.1.length ≤ s.1.length := by
  have a := (rdUv_len s).1
  have b := rdCStr_len s
  unfold rdCNStr
  split
  · exact ⟨(fun x h => by cases h), a⟩
  · exact ⟨(fun x h => by cases h; exact b.1), b.2⟩
theorem rdUuid_len (s : St) : (rdUuid s).2.1.length ≤ s.1.length := (rdSpan_len 16 s).2
end Go.Proofs.YtdklogmmfnddiaaDoor
/-
  Nullable texts and octets as trees; what has gone wrong stays wrong. Plain lemmas.
-/
namespace Go.Proofs.YtdklogmmfnddiaaDoor
open Go.ChangeShapes Go.WideShapes Go.ChangeAt Go.RowKit

def nstrT : Option Bs → T
  | none => .mk 0 [] true [] []
  | some l => .mk 0 l false [] []
def octT : Option Bs → T
  | none => .mk 0 [] true [] []
  | some l => .mk 0 l false [] []
theorem octT_eq (o : Option Bs) : octT o = .mk 0 (o.getD []) (decide (o = none)) [] [] := by cases o <;> rfl
theorem OS.keepF {w w' : World} {F G : Nat → Prop} {v : Value} {o : Option Bs} (h : OS w F v o) (hs : SameOn F w w') (hg : ∀ k, F k → G k) : OS w' G v o := ⟨h.1.keepF hs hg, h.2⟩
theorem rdN_bad (k : Nat) (s : St) (h : (rdN k s).2.2 = false) : s.2 = false := by
  unfold rdN at h
  split at h
  · cases h
  · exact h
theorem rdI_bad (k : Nat) (s : St) (h : (rdI k s).2.2 = false) : s.2 = false := rdN_bad k s h
theorem rdUv_bad (s : St) (h : (rdUv s).2.2 = false) : s.2 = false := by
  unfold rdUv at h
  split at h
  · cases h
  · exact h
theorem rdSpan_bad (n : Int) (s : St) (h : (rdSpan n s).2.2 = false) : s.2 = false := by
  unfold rdSpan at h
  split at h
  · cases h
  · exact h
theorem rdTagsN_bad : ∀ (n : Nat) (s : St) (l : List Tg), (rdTagsN n s l).2.2 = false → s.2 = false
  | 0, _, _, h => h
  | n + 1, _, _, h => rdUv_bad _ (rdUv_bad _ (rdSpan_bad _ _ (rdTagsN_bad n _ _ h)))
theorem rdTags_bad (s : St) (h : (rdTags s).2.2 = false) : s.2 = false := rdUv_bad _ (rdTagsN_bad _ _ _ h)
theorem rdCNB_len (s : St) : (∀ x, (rdCNB s).1 = some x → x.length ≤ s.1.length) ∧ (rdCNB s).2.1.length ≤ s.1.length := by
  have a := (rdUv_len s).1
  have b := rdSpan_len ((rdUv s).1 - 1) (rdUv s).2
  unfold rdCNB
  split
  · exact ⟨(fun x h => by cases h), a⟩
  · exact ⟨(fun x h => by cases h; exact Nat.le_trans b.1 a), Nat.le_trans b.2 a⟩
end Go.Proofs.YtdklogmmfnddiaaDoor
