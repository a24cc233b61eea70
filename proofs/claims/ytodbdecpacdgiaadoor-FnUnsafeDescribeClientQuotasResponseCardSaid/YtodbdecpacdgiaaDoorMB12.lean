/-
  Reader.CompactNullableBytes, with what is nil and what is not.
-/
import Derived.Test.YtodbdecpacdgiaaDoorMB7
import Derived.Test.YtodbdecpacdgiaaDoorMB5
import Derived.Test.YtodbdecpacdgiaaDoorMB9
import Derived.Test.YtodbdecpacdgiaaDoorMB10
import Derived.Test.YtodbdecpacdgiaaDoorMB11
namespace Go.Proofs.YtodbdecpacdgiaaDoor
open Go.ChangeShapes Go.WideShapes Go.ChangeAt Go.RowKit

set_option maxHeartbeats 400000 in
set_option maxRecDepth 100000 in
theorem rduv_some {G : Nat → Prop} {b : Nat} {s : St} {w : World} (h : Rd w b G s) (_hG : There G w) (hb : ¬ G b) :
    Calls Tryd.prog 131 #[.pointer (some ⟨b, 0, none⟩)] w fun e w' => e = .returned (.int .u32 ((rdUv s).1 : Int)) ∧ Rd w' b G (rdUv s).2 ∧ Keep [b] w w' ∧ ((rdUv s).2.2 = false → SrcSome w' b) := by
  obtain ⟨src, bad⟩ := s
  obtain ⟨v, hh, hr, hz⟩ := h
  obtain ⟨ao, cap, rfl⟩ := RS.shape hr
  have c0 : w.cell? ⟨b, 0, none⟩ = some (.slice ao src.length cap) := cellOf hh 0 _ rfl
  have c1 : w.cell? ⟨b, 1, none⟩ = some (.bool bad) := cellOf hh 1 _ rfl
  have f0 := freeOf hh 0
  have f1 := freeOf hh 1
  obtain ⟨hp1, hp2, hp3⟩ := uvP_lt src
  have UV := uvarint_any hr
  go_enter Tryd.func131, Tryd.ntmps131
  have HH : Hid _ := hh
  clear hh
  generalize hu : uvP src = u at *
  obtain ⟨val, n⟩ := u
  have HU : Hid _ := hu
  simp only at hp1 hp2 hp3 UV
  by_cases hn : n ≤ 0
  · go_wp2_with (go_at_call 152; refine UV.mono ?_; rintro e w1 ⟨rfl, rfl⟩)
    go_ret
    have e : rdUv (src, bad) = (0, ([], true)) := by unfold rdUv; simp only [HU.out, hn, if_true]
    exact ⟨by rw [e]; rfl, ⟨.slice none 0 0, by rw [e]; exact heap_set (heap_set HH.out _) _, by rw [e]; exact RB.nil _ _, fun _ => rfl⟩, ((Keep.refl _ _).setCell (.inl (by simp)) _).setCell (.inl (by simp)) _, fun h => by rw [e] at h; cases h⟩
  · obtain ⟨m, rfl⟩ := Int.eq_ofNat_of_zero_le (show 0 ≤ n by omega)
    have e : rdUv (src, bad) = (val, (src.drop m, bad)) := by unfold rdUv; simp only [HU.out, if_neg hn]; simp
    have hpos : 0 < src.length := by omega
    obtain ⟨bs, o, rfl, hGb, -, hcap, -⟩ := hr.spot hpos
    have E : Hid _ := e
    clear e
    have hs : ∀ x, SameOn G w (w.setCell ⟨b, 0, none⟩ x) := fun x k hk => Below.heap_setCell _ _ _ _ (fun e => hb (by simp only at e; rw [← e]; exact hk))
    by_cases hm : m = cap
    · subst hm
      go_wp2_with (go_at_call 152; refine UV.mono ?_; rintro e w1 ⟨rfl, rfl⟩)
      refine bodyPost_ret (v := .int .u32 (val : Int)) (by simp [results, Tryd.results131, go_sem]) rfl ⟨by rw [E.out], ⟨.slice (some ⟨bs, o, none⟩) 0 0, ?_, ?_, fun e => absurd (hz.out (by rw [E.out] at e; exact e)) (by simp)⟩, (Keep.refl _ _).setCell (.inl (by simp)) _, fun _ => ⟨_, _, _, _, heap_set HH.out _⟩⟩
      · rw [E.out]
        have hl0 : src.length - m = 0 := by omega
        exact heap_set HH.out _
      · rw [E.out]
        have hl : src.drop m = [] := List.drop_eq_nil_of_le (by omega)
        simp only [hl]
        exact RB.none0 _ _ _ _ _
    · go_wp2_with (go_at_call 152; refine UV.mono ?_; rintro e w1 ⟨rfl, rfl⟩)
      refine bodyPost_ret (v := .int .u32 (val : Int)) (by simp [results, Tryd.results131, go_sem]) rfl ⟨by rw [E.out], ⟨.slice (some ⟨bs, o + m, none⟩) (src.length - m) (cap - m), ?_, ?_, fun e => absurd (hz.out (by rw [E.out] at e; exact e)) (by simp)⟩, (Keep.refl _ _).setCell (.inl (by simp)) _, fun _ => ⟨_, _, _, _, heap_set HH.out _⟩⟩
      · rw [E.out]
        exact heap_set HH.out _
      · rw [E.out]
        exact (hr.drop m _ _ (by omega) rfl rfl).keepF (hs _) (fun _ h => h)
set_option maxHeartbeats 400000 in
set_option maxRecDepth 100000 in
theorem span_some {G : Nat → Prop} {b : Nat} {s : St} {w : World} {n : Int} (h : Rd w b G s) (hb : ¬ G b) (hsm : s.2 = false → SrcSome w b) :
    Calls Tryd.prog 133 #[.pointer (some ⟨b, 0, none⟩), .int .i64 n] w fun e w' => ∃ v, e = .returned v ∧ RB w' G v (rdSpan n s).1 ∧ Rd w' b G (rdSpan n s).2 ∧ Keep [b] w w' ∧ ((rdSpan n s).2.2 = false → v ≠ .slice none 0 0) ∧ ((rdSpan n s).2.2 = true → v = .slice none 0 0) := by
  obtain ⟨src, bad⟩ := s
  obtain ⟨v, hh, hr, hz⟩ := h
  obtain ⟨ao, cap, rfl⟩ := RS.shape hr
  have c0 : w.cell? ⟨b, 0, none⟩ = some (.slice ao src.length cap) := cellOf hh 0 _ rfl
  have c1 : w.cell? ⟨b, 1, none⟩ = some (.bool bad) := cellOf hh 1 _ rfl
  have f0 := freeOf hh 0
  have f1 := freeOf hh 1
  have HH : Hid _ := hh
  clear hh
  go_enter Tryd.func133, Tryd.ntmps133
  have hcap : src.length ≤ cap := by
    obtain ⟨_, _, e, h, _⟩ := hr
    cases e
    exact h
  by_cases h1 : (src.length : Int) < n
  · go_wp2_with fail
    go_ret
    exact ⟨_, rfl, by simp only [rdSpan, h1, true_or, if_true]; exact RB.nil _ _, ⟨.slice none 0 0, by simp only [rdSpan, h1, true_or, if_true]; exact heap_set (heap_set HH.out _) _, by simp only [rdSpan, h1, true_or, if_true]; exact RB.nil _ _, fun _ => rfl⟩, ((Keep.refl _ _).setCell (.inl (by simp)) _).setCell (.inl (by simp)) _, (fun h => by simp [rdSpan, h1] at h), fun _ => rfl⟩
  by_cases h2 : n < 0
  · go_wp2_with fail
    go_ret
    exact ⟨_, rfl, by simp only [rdSpan, h2, or_true, if_true]; exact RB.nil _ _, ⟨.slice none 0 0, by simp only [rdSpan, h2, or_true, if_true]; exact heap_set (heap_set HH.out _) _, by simp only [rdSpan, h2, or_true, if_true]; exact RB.nil _ _, fun _ => rfl⟩, ((Keep.refl _ _).setCell (.inl (by simp)) _).setCell (.inl (by simp)) _, (fun h => by simp [rdSpan, h2] at h), fun _ => rfl⟩
  obtain ⟨m, rfl⟩ := Int.eq_ofNat_of_zero_le (Int.not_lt.1 h2)
  have h3 : m ≤ src.length := by omega
  have e : rdSpan (m : Int) (src, bad) = (src.take m, (src.drop m, bad)) := by
    unfold rdSpan
    rw [if_neg (by simp only; omega)]
    simp
  have E : Hid _ := e
  clear e h1 h2
  cases ao with
  | none =>
    have hn : src = [] ∧ cap = 0 := by
      obtain ⟨_, _, e, _, h, _⟩ := hr
      cases e
      exact ⟨List.eq_nil_of_length_eq_zero (h rfl).1, (h rfl).2.1⟩
    obtain ⟨rfl, rfl⟩ := hn
    obtain rfl : m = 0 := by simpa using h3
    go_wp2_with fail
    go_ret
    have e := E.out
    simp only [List.take_nil, List.drop_nil] at e
    exact ⟨_, rfl, by rw [show rdSpan 0 ([], bad) = _ from e]; exact RB.nil _ _, ⟨.slice none 0 0, by rw [show rdSpan 0 ([], bad) = _ from e]; exact heap_set HH.out _, by rw [show rdSpan 0 ([], bad) = _ from e]; exact RB.nil _ _, fun _ => rfl⟩, (Keep.refl _ _).setCell (.inl (by simp)) _, (fun h => by
      rw [show rdSpan 0 ([], bad) = _ from e] at h
      obtain ⟨a, n, c, bd, h4⟩ := hsm h
      rw [HH.out] at h4
      cases h4), fun _ => rfl⟩
  | some a =>
    obtain ⟨bs, o, sp⟩ := a
    have hsp : 0 < src.length → sp = none := by
      obtain ⟨_, _, e, _, _, h⟩ := hr
      cases e
      exact fun h0 => (h _ rfl).1 (by simpa using h0)
    cases sp with
    | some s =>
      have h0 : src = [] := List.eq_nil_of_length_eq_zero (Nat.eq_zero_of_not_pos fun h0 => by cases hsp h0)
      subst h0
      obtain rfl : m = 0 := by simpa using h3
      have e := E.out
      simp only [List.take_nil, List.drop_nil] at e
      have e2 : Hid _ := e
      clear e
      by_cases hc : 0 = cap
      · subst hc
        go_wp2_with fail
        refine bodyPost_ret (v := .slice (some ⟨bs, o, some s⟩) 0 0) (by simp [results, Tryd.results133, go_sem]) rfl ⟨_, rfl, ?_, ⟨.slice (some ⟨bs, o, some s⟩) 0 0, ?_, ?_, fun e => absurd (hz.out (by rw [show rdSpan 0 ([], bad) = _ from e2.out] at e; exact e)) (by simp)⟩, (Keep.refl _ _).setCell (.inl (by simp)) _, (fun _ h => by cases h), fun e => absurd (hz.out (by rw [show rdSpan 0 ([], bad) = _ from e2.out] at e; exact e)) (by simp)⟩
        · rw [show rdSpan 0 ([], bad) = _ from e2.out]; exact RB.empty _ _ _ _
        · rw [show rdSpan 0 ([], bad) = _ from e2.out]; exact heap_set HH.out _
        · rw [show rdSpan 0 ([], bad) = _ from e2.out]; exact RB.empty _ _ _ _
      · go_wp2_with fail
        refine bodyPost_ret (v := .slice (some ⟨bs, o, some s⟩) 0 0) (by simp [results, Tryd.results133, go_sem]) rfl ⟨_, rfl, ?_, ⟨.slice (some ⟨bs, o, some s⟩) 0 cap, ?_, ?_, fun e => absurd (hz.out (by rw [show rdSpan 0 ([], bad) = _ from e2.out] at e; exact e)) (by simp)⟩, (Keep.refl _ _).setCell (.inl (by simp)) _, (fun _ h => by cases h), fun e => absurd (hz.out (by rw [show rdSpan 0 ([], bad) = _ from e2.out] at e; exact e)) (by simp)⟩
        · rw [show rdSpan 0 ([], bad) = _ from e2.out]; exact RB.empty _ _ _ _
        · rw [show rdSpan 0 ([], bad) = _ from e2.out]; exact heap_set HH.out _
        · rw [show rdSpan 0 ([], bad) = _ from e2.out]; exact RB.empty _ _ _ _
    | none =>
    have hs : ∀ x, SameOn G w (w.setCell ⟨b, 0, none⟩ x) := fun x k hk => Below.heap_setCell _ _ _ _ (fun e => hb (by simp only at e; rw [← e]; exact hk))
    by_cases hc : m = cap
    · subst hc
      have hl : src.drop m = [] := List.drop_eq_nil_of_le hcap
      have hl2 : src.length - m = 0 := by omega
      go_wp2_with fail
      refine bodyPost_ret (v := .slice (some ⟨bs, o, none⟩) m m) (by simp [results, Tryd.results133, go_sem]) rfl ⟨_, rfl, ?_, ⟨.slice (some ⟨bs, o, none⟩) 0 0, ?_, ?_, fun e => absurd (hz.out (by rw [E.out] at e; exact e)) (by simp)⟩, (Keep.refl _ _).setCell (.inl (by simp)) _, (fun _ h => by cases h), fun e => absurd (hz.out (by rw [E.out] at e; exact e)) (by simp)⟩
      · rw [E.out]; exact (hr.cut m h3).keepF (hs _) (fun _ h => h)
      · rw [E.out]; exact heap_set HH.out _
      · rw [E.out]; simp only [hl]; exact RB.none0 _ _ _ _ _
    · go_wp2_with fail
      refine bodyPost_ret (v := .slice (some ⟨bs, o, none⟩) m m) (by simp [results, Tryd.results133, go_sem]) rfl ⟨_, rfl, ?_, ⟨.slice (some ⟨bs, o + m, none⟩) (src.length - m) (cap - m), ?_, ?_, fun e => absurd (hz.out (by rw [E.out] at e; exact e)) (by simp)⟩, (Keep.refl _ _).setCell (.inl (by simp)) _, (fun _ h => by cases h), fun e => absurd (hz.out (by rw [E.out] at e; exact e)) (by simp)⟩
      · rw [E.out]; exact (hr.cut m h3).keepF (hs _) (fun _ h => h)
      · rw [E.out]; exact heap_set HH.out _
      · rw [E.out]; exact (hr.drop m _ _ h3 rfl rfl).keepF (hs _) (fun _ h => h)
def rdCNB (s : St) : Option Bs × St := if (rdUv s).1 = 0 then (none, (rdUv s).2) else (some (rdSpan ((rdUv s).1 - 1) (rdUv s).2).1, (rdSpan ((rdUv s).1 - 1) (rdUv s).2).2)
/-- octets, or nil -/
def OS (w : World) (G : Nat → Prop) (v : Value) (o : Option Bs) : Prop := RB w G v (o.getD []) ∧ (v = .slice none 0 0 ↔ o = none)
/-- a span, nil where it is bad -/
def rdSpO (n : Int) (s : St) : Option Bs × St := (if (rdSpan n s).2.2 then none else some (rdSpan n s).1, (rdSpan n s).2)
def rdBy (s : St) : Option Bs × St := if (rdI 4 s).1 = -1 then (some [], (rdI 4 s).2) else rdSpO (rdI 4 s).1 (rdI 4 s).2
def rdNBy (s : St) : Option Bs × St := if (rdI 4 s).1 < 0 then (none, (rdI 4 s).2) else rdSpO (rdI 4 s).1 (rdI 4 s).2
def rdCBy (s : St) : Option Bs × St := if (rdUv s).1 = 0 then (some [], (rdUv s).2) else rdSpO ((rdUv s).1 - 1) (rdUv s).2
def rdCNBy (s : St) : Option Bs × St := if (rdUv s).1 = 0 then (none, (rdUv s).2) else rdSpO ((rdUv s).1 - 1) (rdUv s).2
theorem OS.of_span {w : World} {G : Nat → Prop} {v : Value} {n : Int} {s : St} (h : RB w G v (rdSpan n s).1) (n2 : (rdSpan n s).2.2 = false → v ≠ .slice none 0 0) (n3 : (rdSpan n s).2.2 = true → v = .slice none 0 0) : OS w G v (rdSpO n s).1 := by
  unfold rdSpO
  cases e : (rdSpan n s).2.2
  · exact ⟨h, by simp [n2 e]⟩
  · rw [n3 e]
    exact ⟨RB.nil _ _, by simp⟩
theorem OS.empty (w : World) (G : Nat → Prop) (a : Addr) (c : Nat) : OS w G (.slice (some a) 0 c) (some []) := ⟨RB.empty _ _ _ _, by simp⟩
theorem OS.nought (w : World) (G : Nat → Prop) : OS w G (.slice none 0 0) none := ⟨RB.nil _ _, by simp⟩
theorem Rd.keepW' {w w' : World} {b : Nat} {G : Nat → Prop} {s : St} (h : Rd w b G s) (hG : There G w) (hk : Keep [] w w') : Rd w' b G s := by
  obtain ⟨v, h1, h2, h3⟩ := h
  exact ⟨v, (hk.block b (Array.getElem?_eq_some_iff.1 h1).1 (by simp)).trans h1, h2.keepF (hG.same hk) (fun _ h => h), h3⟩
set_option maxHeartbeats 400000 in
set_option maxRecDepth 100000 in
theorem by_any {G : Nat → Prop} {b : Nat} {s : St} {w : World} (h : Rd w b G s) (hG : There G w) (hb : ¬ G b) :
    Calls Tryd.prog 115 #[.pointer (some ⟨b, 0, none⟩)] w fun e w' => ∃ v, e = .returned v ∧ OS w' G v (rdBy s).1 ∧ Rd w' b G (rdBy s).2 ∧ Keep [b] w w' := by
  have hR1 : -2147483648 ≤ (rdI 4 s).1 := (rdI_range4 _).1
  have hR2 : (rdI 4 s).1 ≤ 2147483647 := (rdI_range4 _).2
  by_cases hc : (rdI 4 s).1 = -1
  · have E : Hid (rdBy s = (some [], (rdI 4 s).2)) := (by unfold rdBy; rw [if_pos hc] : rdBy s = (some [], (rdI 4 s).2))
    go_enter Tryd.func115, Tryd.ntmps115
    go_wp2_with (go_at_call 91; go_loud (refine (int32_any h hG hb).mono ?_; rintro e w1 ⟨rfl, h1, k1⟩))
    go_ret
    rw [E.out]
    exact ⟨_, rfl, OS.empty _ _ _ _, h1.keepW' (hG.mono k1.size) (by exact keep_box _), k1.alloc _⟩
  · have E : Hid (rdBy s = rdSpO (rdI 4 s).1 (rdI 4 s).2) := (by unfold rdBy; rw [if_neg hc] : rdBy s = rdSpO (rdI 4 s).1 (rdI 4 s).2)
    go_enter Tryd.func115, Tryd.ntmps115
    go_wp2_with (first
      | (go_at_call 91; go_loud (refine (i32_some h hG hb).mono ?_; rintro e w1 ⟨rfl, h1, k1, n1⟩))
      | (go_at_call 133; go_loud (refine (span_some h1 hb n1).mono ?_; rintro e w2 ⟨v, rfl, hv, h2, k2, n2, n3⟩)))
    go_ret
    rw [E.out]
    exact ⟨_, rfl, OS.of_span hv n2 n3, h2, k1.trans k2⟩
set_option maxHeartbeats 400000 in
set_option maxRecDepth 100000 in
theorem cby_any {G : Nat → Prop} {b : Nat} {s : St} {w : World} (h : Rd w b G s) (hG : There G w) (hb : ¬ G b) :
    Calls Tryd.prog 114 #[.pointer (some ⟨b, 0, none⟩)] w fun e w' => ∃ v, e = .returned v ∧ OS w' G v (rdCBy s).1 ∧ Rd w' b G (rdCBy s).2 ∧ Keep [b] w w' := by
  have hR2 : (rdUv s).1 < 4294967296 := rdUv_lt s
  by_cases hc : (rdUv s).1 = 0
  · have E : Hid (rdCBy s = (some [], (rdUv s).2)) := (by unfold rdCBy; rw [if_pos hc] : rdCBy s = (some [], (rdUv s).2))
    go_enter Tryd.func114, Tryd.ntmps114
    go_wp2_with (go_at_call 131; go_loud (refine (rduv_any h hG hb).mono ?_; rintro e w1 ⟨rfl, h1, k1⟩))
    go_ret
    rw [E.out]
    exact ⟨_, rfl, OS.empty _ _ _ _, h1.keepW' (hG.mono k1.size) (by exact keep_box _), k1.alloc _⟩
  · have E : Hid (rdCBy s = rdSpO ((rdUv s).1 - 1) (rdUv s).2) := (by unfold rdCBy; rw [if_neg hc] : rdCBy s = rdSpO ((rdUv s).1 - 1) (rdUv s).2)
    go_enter Tryd.func114, Tryd.ntmps114
    go_wp2_with (first
      | (go_at_call 131; go_loud (refine (rduv_some h hG hb).mono ?_; rintro e w1 ⟨rfl, h1, k1, n1⟩))
      | (go_at_call 133; go_loud (refine (span_some h1 hb n1).mono ?_; rintro e w2 ⟨v, rfl, hv, h2, k2, n2, n3⟩)))
    go_ret
    rw [E.out]
    exact ⟨_, rfl, OS.of_span hv n2 n3, h2, k1.trans k2⟩
end Go.Proofs.YtodbdecpacdgiaaDoor
/-
  kbin.AppendCompactString, AppendNullableString, .. , the lengths of lists, octets: onto octets of the call's own.
-/
namespace Go.Proofs.YtodbdecpacdgiaaDoor
open Go.ChangeShapes Go.WideShapes Go.ChangeAt Go.RowKit

def nstrP : Option Bs → Bs
  | none => fixedP (-1) 2
  | some s => fixedP s.length 2 ++ s
def cnstrP : Option Bs → Bs
  | none => [0]
  | some s => uvarP (s.length + 1) ++ s
theorem cast1 (n : Nat) : ((1 + n : Nat) : Int) = 1 + (n : Int) := by omega
theorem uvar0 : uvarP 0 = [0] := by rw [uvarP_small (by omega)]; rfl
theorem wrap_i32s (n : Nat) (h : n ≤ 1000000) : IntKind.i32.wrap (n : Int) = n := by rw [IntKind.wrap_i32]; omega
end Go.Proofs.YtodbdecpacdgiaaDoor
/-
  kbin.AppendUuid: onto octets of the call's own.
-/
namespace Go.Proofs.YtodbdecpacdgiaaDoor
open Go.ChangeShapes Go.WideShapes Go.ChangeAt Go.RowKit

theorem rb_own {W : World} {b : Nat} {x : Bs} {t : TypeId} (h : W.heap[b]? = some (.cells (x.map bv).toArray t (0, 0))) : RB W (fun k => k = b) (.slice (some ⟨b, 0, none⟩) x.length x.length) x := by
  refine ⟨_, _, rfl, Nat.le_refl _, (fun h => by cases h), fun a ha => ?_⟩
  cases ha
  refine ⟨fun _ => rfl, fun i hi => ⟨rfl, ?_⟩⟩
  simp only [World.cell?, h, Option.isSome_none, Bool.false_eq_true, if_false, Nat.zero_add]
  rw [List.getElem?_toArray]
  exact List.getElem?_eq_getElem hi
end Go.Proofs.YtodbdecpacdgiaaDoor
/-
  HOW FAR A MESSAGE HAS BEEN READ: the reader, the message's block, and what stays.
-/
namespace Go.Proofs.YtodbdecpacdgiaaDoor
open Go.ChangeShapes Go.WideShapes Go.ChangeAt Go.RowKit

theorem World.heap_lt {w : World} {b : Nat} {o : Obj} (h : w.heap[b]? = some o) : b < w.heap.size := (Array.getElem?_eq_some_iff.1 h).1
/-- the call began in w; the reader's block is new -/
structure RdSt (w U : World) (b rb : Nat) (G : Nat → Prop) (s : St) (arr : Array Value) (t : TypeId) : Prop where
  rd : Rd U rb G s
  blk : U.heap[b]? = some (.cells arr t (0, 0))
  keep : Keep [b] w U
  there : There G w
  nb : ¬ G b
  lt : b < w.heap.size
  new : w.heap.size ≤ rb
namespace RdSt
variable {w U U' : World} {b rb j : Nat} {G : Nat → Prop} {s s' : St} {arr : Array Value} {t : TypeId} {v : Value}
theorem hG (h : RdSt w U b rb G s arr t) : There G U := h.there.mono h.keep.size
theorem nrb (h : RdSt w U b rb G s arr t) : ¬ G rb := fun e => by have := h.there _ e; have := h.new; omega
theorem call (h : RdSt w U b rb G s arr t) (r : Rd U' rb G s') (k : Keep [rb] U U') : RdSt w U' b rb G s' arr t := by
  have hn := h.new
  have hl := h.lt
  have hs := h.keep.size
  refine ⟨r, (k.block b (by omega) (by simp; omega)).trans h.blk, ?_, h.there, h.nb, hl, hn⟩
  exact ((h.keep.weaken (B := [b, rb]) (by simp)).trans (k.weaken (by simp))).fresh (by simp; omega)
theorem calm (h : RdSt w U b rb G s arr t) (k : Keep [] U U') : RdSt w U' b rb G s arr t := by
  have hl := h.lt
  have hs := h.keep.size
  exact ⟨h.rd.keepW h.hG h.rd.lt' k, (k.block b (by omega) (by simp)).trans h.blk, h.keep.trans (k.weaken (by simp)), h.there, h.nb, hl, h.new⟩
theorem set (h : RdSt w U b rb G s arr t) (j : Nat) (v : Value) : RdSt w (U.setCell ⟨b, j, none⟩ v) b rb G s (arr.setIfInBounds j v) t := by
  have hn := h.new
  have hl := h.lt
  have k : Keep [b] U (U.setCell ⟨b, j, none⟩ v) := (Keep.refl _ _).setCell (.inl (by simp)) _
  refine ⟨h.rd.keepA h.hG h.rd.lt' k (by intro i hi; simp at hi; subst hi; exact h.nb) (by simp; omega), heap_set h.blk v, h.keep.trans k, h.there, h.nb, hl, hn⟩
theorem cell (h : RdSt w U b rb G s arr t) (j : Nat) (v : Value) (hv : arr[j]? = some v) : U.cell? ⟨b, j, none⟩ = some v := cellOf h.blk j v hv
theorem free (h : RdSt w U b rb G s arr t) (j : Nat) : U.frozen? ⟨b, j, none⟩ = false := freeOf h.blk j
theorem mp {W Z : World} {v : Value} {l : List Tg} (h : RdSt w U b rb G s arr t) (m : MP W (New G U W) v l) (k : Keep [b] W Z) : MP Z (New G w Z) v l := by
  have hl := h.lt
  have hu := h.keep.size
  have hz := k.size
  refine m.keepF (fun i hi => k.block i hi.2 ?_) (fun i hi => ⟨hi.1.imp id (fun e => by omega), by have := hi.2; omega⟩)
  simp
  rintro rfl
  rcases hi.1 with e | e
  · exact h.nb e
  · omega
theorem ps {W Z : World} {v : Value} {o : Option Bs} (h : RdSt w U b rb G s arr t) (m : PS W (fun k => U.heap.size ≤ k ∧ k < W.heap.size) v o) (k : Keep [b, rb] W Z) : PS Z (New G w Z) v o := by
  have hl := h.lt
  have hu := h.keep.size
  have hz := k.size
  have hr := h.rd.lt'
  exact m.keepF (fun i hi => k.block i hi.2 (by have := hi.1; simp; omega)) (fun i hi => ⟨.inr (by have := hi.1; omega), by have := hi.2; omega⟩)
end RdSt
theorem PS.shape {w : World} {G : Nat → Prop} {v : Value} {o : Option Bs} (h : PS w G v o) : ∃ a, v = .pointer a := by
  rcases h with ⟨rfl, _⟩ | ⟨k, l, rfl, _⟩
  · exact ⟨_, rfl⟩
  · exact ⟨_, rfl⟩
end Go.Proofs.YtodbdecpacdgiaaDoor
/-
  How many tags may be read of so many octets, and how long they may be. Plain lemmas.
-/
namespace Go.Proofs.YtodbdecpacdgiaaDoor

theorem rdUv_len (s : St) : (rdUv s).2.1.length ≤ s.1.length ∧ ((rdUv s).1 ≠ 0 → (rdUv s).2.1.length + 1 ≤ s.1.length) := by
  have h := uvP_lt s.1
  unfold rdUv
  split
  · simp
  · rename_i hn
    simp only [List.length_drop]
    omega
theorem rdSpan_len (n : Int) (s : St) : (rdSpan n s).1.length ≤ s.1.length ∧ (rdSpan n s).2.1.length ≤ s.1.length := by
  unfold rdSpan
  split
  · simp
  · simp only [List.length_take, List.length_drop]
    omega
theorem insK_perm {α : Type} (x : Nat × α) : ∀ l : List (Nat × α), (insK x l).Perm (x :: l)
  | [] => List.Perm.refl _
  | y :: r => by
    unfold insK
    split
    · exact List.Perm.refl _
    · exact ((insK_perm x r).cons y).trans (List.Perm.swap x y r)
/-- the tags but for that of the number nought -/
def n0 (l : List Tg) : Nat := (l.filter fun x => decide (x.1 ≠ 0)).length
theorem n0_put (l : List Tg) (k : Nat) (x : Bs) : n0 (putK l k x) ≤ n0 l + (if k = 0 then 0 else 1) := by
  unfold n0 putK
  have h := ((insK_perm (k, x) (l.filter fun y => decide (y.1 ≠ k))).filter fun x => decide (x.1 ≠ 0)).length_eq
  rw [h, List.filter_cons]
  have hs : ((l.filter fun y => decide (y.1 ≠ k)).filter fun x => decide (x.1 ≠ 0)).length ≤ (l.filter fun x => decide (x.1 ≠ 0)).length := ((List.filter_sublist).filter _).length_le
  by_cases hk : k = 0
  · rw [if_neg (by simp [hk]), if_pos hk]
    exact Nat.le_trans hs (Nat.le_add_right _ _)
  · rw [if_pos (by simp [hk]), if_neg hk, List.length_cons]
    exact Nat.succ_le_succ hs
theorem n0_rising : ∀ {l : List Tg}, Rising l → l.length ≤ n0 l + 1
  | [], _ => by simp
  | y :: r, h => by
    obtain ⟨h1, _⟩ := List.pairwise_cons.1 h
    have e : r.filter (fun x => decide (x.1 ≠ 0)) = r := List.filter_eq_self.2 fun x hx => by have := h1 x hx; simp; omega
    unfold n0
    rw [List.filter_cons, e]
    split
    · simp
    · simp
theorem rdTagsN_len (B : Nat) : ∀ (n : Nat) (s : St) (l : List Tg), Rising l → (∀ x ∈ l, x.2.length ≤ B) → s.1.length ≤ B →
    n0 (rdTagsN n s l).1 ≤ n0 l + s.1.length ∧ Rising (rdTagsN n s l).1 ∧ ∀ x ∈ (rdTagsN n s l).1, x.2.length ≤ B
  | 0, s, l, h1, h2, _ => ⟨by simp [rdTagsN], h1, h2⟩
  | n + 1, s, l, h1, h2, h3 => by
    have a := rdUv_len s
    have b := rdUv_len (rdUv s).2
    have c := rdSpan_len ((rdUv (rdUv s).2).1 : Int) (rdUv (rdUv s).2).2
    have p := n0_put l (rdUv s).1 (rdSpan ((rdUv (rdUv s).2).1 : Int) (rdUv (rdUv s).2).2).1
    have ih := rdTagsN_len B n (rdSpan ((rdUv (rdUv s).2).1 : Int) (rdUv (rdUv s).2).2).2 (putK l (rdUv s).1 (rdSpan ((rdUv (rdUv s).2).1 : Int) (rdUv (rdUv s).2).2).1) (rising_putK h1 _ _)
      (fun x hx => by
        rcases mem_putK hx with rfl | hx
        · simp only; omega
        · exact h2 x hx) (by omega)
    simp only [rdTagsN]
    refine ⟨?_, ih.2⟩
    have := ih.1
    by_cases hk : (rdUv s).1 = 0
    · rw [if_pos hk] at p; omega
    · rw [if_neg hk] at p; have := a.2 hk; omega
theorem rdTags_len (s : St) : (rdTags s).1.length ≤ s.1.length + 1 ∧ ∀ x ∈ (rdTags s).1, x.2.length ≤ s.1.length := by
  have a := rdUv_len s
  have h := rdTagsN_len s.1.length (rdUv s).1 (rdUv s).2 [] rising_nil (by simp) a.1
  have r := n0_rising h.2.1
  refine ⟨?_, h.2.2⟩
  have := h.1
  have z : n0 [] = 0 := rfl
  show (rdTagsN (rdUv s).1 (rdUv s).2 []).1.length ≤ _
  omega
theorem rdN_len (k : Nat) (s : St) : (rdN k s).2.1.length ≤ s.1.length := by
  unfold rdN
  split
  · simp
  · simp
theorem rdI_len (k : Nat) (s : St) : (rdI k s).2.1.length ≤ s.1.length := rdN_len k s
theorem rdStr_len (s : St) : (rdStr s).1.length ≤ s.1.length ∧ (rdStr s).2.1.length ≤ s.1.length := by
  have a := rdI_len 2 s
  have b := rdSpan_len (rdI 2 s).1 (rdI 2 s).2
  unfold rdStr
  omega
theorem rdCStr_len (s : St) : (rdCStr s).1.length ≤ s.1.length ∧ (rdCStr s).2.1.length ≤ s.1.length := by
  have a := (rdUv_len s).1
  have b := rdSpan_len ((rdUv s).1 - 1) (rdUv s).2
  unfold rdCStr
  omega
theorem rdNStr_len (s : St) : (∀ x, (rdNStr s).1 = some x → x.length ≤ s.1.length) ∧ (rdNStr s).2.1.length ≤ s.1.length := by
  have a := rdI_len 2 s
  have b := rdStr_len s
  unfold rdNStr
  split
  · exact ⟨(fun x h => by cases h), a⟩
  · exact ⟨(fun x h => by cases h; exact b.1), b.2⟩
theorem rdCNStr_len (s : St) : (∀ x, (rdCNStr s).1 = some x → x.length ≤ s.1.length) ∧ (rdCNStr s).2.1.length ≤ s.1.length := by
  have a := (rdUv_len s).1
  have b := rdCStr_len s
  unfold rdCNStr
  split
  · exact ⟨(fun x h => by cases h), a⟩
  · exact ⟨(fun x h => by cases h; exact b.1), b.2⟩
theorem rdUuid_len (s : St) : (rdUuid s).2.1.length ≤ s.1.length := (rdSpan_len 16 s).2
end Go.Proofs.YtodbdecpacdgiaaDoor
/-
  Nullable texts and octets as trees; what has gone wrong stays wrong. Plain lemmas.
-/
namespace Go.Proofs.YtodbdecpacdgiaaDoor
open Go.ChangeShapes Go.WideShapes Go.ChangeAt Go.RowKit

def nstrT : Option Bs → T
  | none => .mk 0 [] true [] []
  | some l => .mk 0 l false [] []
def octT : Option Bs → T
  | none => .mk 0 [] true [] []
  | some l => .mk 0 l false [] []
theorem octT_eq (o : Option Bs) : octT o = .mk 0 (o.getD []) (decide (o = none)) [] [] := by cases o <;> rfl
theorem OS.keepF {w w' : World} {F G : Nat → Prop} {v : Value} {o : Option Bs} (h : OS w F v o) (hs : SameOn F w w') (hg : ∀ k, F k → G k) : OS w' G v o := ⟨h.1.keepF hs hg, h.2⟩
theorem rdN_bad (k : Nat) (s : St) (h : (rdN k s).2.2 = false) : s.2 = false := by
  unfold rdN at h
  split at h
  · cases h
  · exact h
theorem rdI_bad (k : Nat) (s : St) (h : (rdI k s).2.2 = false) : s.2 = false := rdN_bad k s h
theorem rdUv_bad (s : St) (h : (rdUv s).2.2 = false) : s.2 = false := by
  unfold rdUv at h
  split at h
  · cases h
  · exact h
theorem rdSpan_bad (n : Int) (s : St) (h : (rdSpan n s).2.2 = false) : s.2 = false := by
  unfold rdSpan at h
  split at h
  · cases h
  · exact h
theorem rdTagsN_bad : ∀ (n : Nat) (s : St) (l : List Tg), (rdTagsN n s l).2.2 = false → s.2 = false
  | 0, _, _, h => h
  | n + 1, _, _, h => rdUv_bad _ (rdUv_bad _ (rdSpan_bad _ _ (rdTagsN_bad n _ _ h)))
theorem rdTags_bad (s : St) (h : (rdTags s).2.2 = false) : s.2 = false := rdUv_bad _ (rdTagsN_bad _ _ _ h)
theorem rdCNB_len (s : St) : (∀ x, (rdCNB s).1 = some x → x.length ≤ s.1.length) ∧ (rdCNB s).2.1.length ≤ s.1.length := by
  have a := (rdUv_len s).1
  have b := rdSpan_len ((rdUv s).1 - 1) (rdUv s).2
  unfold rdCNB
  split
  · exact ⟨(fun x h => by cases h), a⟩
  · exact ⟨(fun x h => by cases h; exact Nat.le_trans b.1 a), Nat.le_trans b.2 a⟩
end Go.Proofs.YtodbdecpacdgiaaDoor
/-
  READING A MESSAGE AS A PLAIN FUNCTION OF ITS FIELDS' LIST, and how the struct that was read lies in memory.
-/
namespace Go.Proofs.YtodbdecpacdgiaaDoor
open Go.ChangeShapes Go.WideShapes Go.ChangeAt Go.RowKit

/-- a list's length, as it is read -/
def rdLen (s : St) : Int × St := if ((rdI 4 s).2.1.length : Int) < (rdI 4 s).1 then (0, ([], true)) else rdI 4 s
def rdCLen (s : St) : Int × St :=
  if ((rdUv s).2.1.length : Int) < IntKind.i32.wrap (IntKind.i32.wrap ((rdUv s).1 : Int) - 1) then (0, ([], true)) else (IntKind.i32.wrap (IntKind.i32.wrap ((rdUv s).1 : Int) - 1), (rdUv s).2)
/-- octets with a length -/
def rdBs (s : St) : Bs × St := rdSpan (rdI 4 s).1 (rdI 4 s).2
def rdTimes (g : St → T × St) : Nat → St → List T × St
  | 0, s => ([], s)
  | n + 1, s => ((rdTimes g n s).1 ++ [(g (rdTimes g n s).2).1], (g (rdTimes g n s).2).2)

/-- a part: its fields, then, in a flexible version, its tags -/
def rdPartOf (fs : St → List T × St) (flex : Bool) (s : St) : T × St :=
  if flex then (.mk 0 [] false (fs s).1 (rdTags (fs s).2).1, (rdTags (fs s).2).2) else (.mk 0 [] false (fs s).1 [], (fs s).2)
/-- a value of a kind -/
def rdK (kind : Int) (nul flex : Bool) (part : St → T × St) (s : St) : T × St :=
  if kind = 0 then (.mk (if (rdBool s).1 then 1 else 0) [] false [] [], (rdBool s).2)
  else if kind = 1 then (.mk (rdI 1 s).1 [] false [] [], (rdI 1 s).2)
  else if kind = 2 then (.mk (rdI 2 s).1 [] false [] [], (rdI 2 s).2)
  else if kind = 3 then (.mk (rdI 4 s).1 [] false [] [], (rdI 4 s).2)
  else if kind = 4 then (.mk (rdI 8 s).1 [] false [] [], (rdI 8 s).2)
  else if kind = 5 then (.mk ((rdN 2 s).1 : Int) [] false [] [], (rdN 2 s).2)
  else if kind = 6 then (.mk (rdI 8 s).1 [] false [] [], (rdI 8 s).2)
  else if kind = 7 then (.mk 0 (rdUuid s).1 false [] [], (rdUuid s).2)
  else if kind = 8 then
    if nul then (if flex then (nstrT (rdCNStr s).1, (rdCNStr s).2) else (nstrT (rdNStr s).1, (rdNStr s).2))
    else (if flex then (.mk 0 (rdCStr s).1 false [] [], (rdCStr s).2) else (.mk 0 (rdStr s).1 false [] [], (rdStr s).2))
  else if kind = 9 then
    if nul then (if flex then (octT (rdCNBy s).1, (rdCNBy s).2) else (octT (rdNBy s).1, (rdNBy s).2))
    else (if flex then (octT (rdCBy s).1, (rdCBy s).2) else (octT (rdBy s).1, (rdBy s).2))
  else if kind = 10 then part s
  else (T.zero, s)
def rdListOf (nul : Int) (flex : Bool) (v : Int) (g : St → T × St) (s : St) : T × St :=
  let n := if flex then rdCLen s else rdLen s
  (.mk 0 [] (if nul < 0 then decide (n.1 ≤ 0) else decide (nul ≤ v) && decide (n.1 < 0)) (rdTimes g n.1.toNat n.2).1 [], (rdTimes g n.1.toNat n.2).2)
mutual
/-- what a field is that the version lacks -/
def dflF : F → T
  | .mk k _ _ nul _ dfl _ sub =>
    if k = 7 then .mk 0 (List.replicate 16 0) false [] []
    else if k = 8 then .mk 0 [] (decide (0 ≤ nul)) [] []
    else if k = 9 ∨ k = 11 then .mk 0 [] true [] []
    else if k = 10 then (if 0 ≤ nul then .mk 0 [] true [] [] else .mk 0 [] false (dflFs sub) [])
    else .mk dfl [] false [] []
def dflFs : List F → List T
  | [] => []
  | f :: r => dflF f :: dflFs r
end
mutual
def rdF : F → Int → Bool → St → T × St
  | .mk k _ _ nul _ _ ofk sub, v, flex, s =>
    if k = 11 then rdListOf nul flex v (rdK ofk false flex (rdPartOf (rdFs sub v flex) flex)) s
    else rdK k (decide (0 ≤ nul) && decide (nul ≤ v)) flex (rdPartOf (rdFs sub v flex) flex) s
def rdFs : List F → Int → Bool → St → List T × St
  | [], _, _, s => ([], s)
  | f :: r, v, flex, s => if f.has v then ((rdF f v flex s).1 :: (rdFs r v flex (rdF f v flex s).2).1, (rdFs r v flex (rdF f v flex s).2).2) else (dflF f :: (rdFs r v flex s).1, (rdFs r v flex s).2)
end
def rdPart (fs : List F) (v : Int) (flex : Bool) (s : St) : T × St := rdPartOf (rdFs fs v flex) flex s

theorem rdFs_has {f : F} {r : List F} {v : Int} {flex : Bool} {s : St} (h : f.has v = true) : rdFs (f :: r) v flex s = ((rdF f v flex s).1 :: (rdFs r v flex (rdF f v flex s).2).1, (rdFs r v flex (rdF f v flex s).2).2) := by
  rw [rdFs, if_pos h]
theorem rdFs_lacks {f : F} {r : List F} {v : Int} {flex : Bool} {s : St} (h : f.has v = false) : rdFs (f :: r) v flex s = (dflF f :: (rdFs r v flex s).1, (rdFs r v flex s).2) := by
  rw [rdFs, if_neg (by simp [h])]
theorem ite_p {α : Type} {c : Prop} {_ : Decidable c} {a b : α} (P : α → Prop) (h1 : P a) (h2 : P b) : P (if c then a else b) := by
  by_cases h : c
  · rw [if_pos h]; exact h1
  · rw [if_neg h]; exact h2
theorem ite_imp {c : Prop} {_ : Decidable c} {A B A' B' : Prop} (h1 : A → A') (h2 : B → B') (h : if c then A else B) : if c then A' else B' := by
  by_cases hc : c
  · rw [if_pos hc] at h ⊢; exact h1 h
  · rw [if_neg hc] at h ⊢; exact h2 h
theorem rdTimes_len (g : St → T × St) : ∀ (n : Nat) (s : St), (rdTimes g n s).1.length = n
  | 0, _ => rfl
  | n + 1, s => by simp [rdTimes, rdTimes_len g n s]

/-- WHAT HAS GONE WRONG STAYS WRONG -/
def Bad (g : St → St) : Prop := ∀ s, s.2 = true → (g s).2 = true
theorem rdN_b (k : Nat) : Bad fun s => (rdN k s).2 := fun s h => by
  cases e : (rdN k s).2.2
  · exact absurd (rdN_bad k s e) (by simp [h])
  · rfl
theorem rdUv_b : Bad fun s => (rdUv s).2 := fun s h => by
  cases e : (rdUv s).2.2
  · exact absurd (rdUv_bad s e) (by simp [h])
  · rfl
theorem rdSpan_b (n : Int) : Bad fun s => (rdSpan n s).2 := fun s h => by
  cases e : (rdSpan n s).2.2
  · exact absurd (rdSpan_bad n s e) (by simp [h])
  · rfl
theorem rdTags_b : Bad fun s => (rdTags s).2 := fun s h => by
  cases e : (rdTags s).2.2
  · exact absurd (rdTags_bad s e) (by simp [h])
  · rfl
theorem rdI_b (k : Nat) : Bad fun s => (rdI k s).2 := rdN_b k
theorem rdLen_b : Bad fun s => (rdLen s).2 := fun s h => by
  simp only [rdLen]
  split
  · rfl
  · exact rdI_b 4 s h
theorem rdCLen_b : Bad fun s => (rdCLen s).2 := fun s h => by
  simp only [rdCLen]
  split
  · rfl
  · exact rdUv_b s h
theorem rdTimes_b {g : St → T × St} (hg : Bad fun s => (g s).2) : ∀ n, Bad fun s => (rdTimes g n s).2
  | 0, _, h => h
  | n + 1, s, h => hg _ (rdTimes_b hg n s h)
theorem rdTimes_from {g : St → T × St} (hg : Bad fun s => (g s).2) (s : St) (j : Nat) (h : (rdTimes g j s).2.2 = true) : ∀ n, j ≤ n → (rdTimes g n s).2.2 = true := fun n hn => by
  induction n with
  | zero => obtain rfl : j = 0 := by omega
            exact h
  | succ n ih =>
    rcases Nat.lt_or_ge n j with h1 | h1
    · obtain rfl : j = n + 1 := by omega
      exact h
    · exact hg _ (ih h1)
theorem rdPartOf_b {fs : St → List T × St} (h : Bad fun s => (fs s).2) (flex : Bool) : Bad fun s => (rdPartOf fs flex s).2 := fun s hs => by
  cases flex
  · exact h s hs
  · exact rdTags_b _ (h s hs)
theorem rdStr_b : Bad fun s => (rdStr s).2 := fun s h => rdSpan_b _ _ (rdI_b 2 s h)
theorem rdCStr_b : Bad fun s => (rdCStr s).2 := fun s h => rdSpan_b _ _ (rdUv_b s h)
theorem rdNStr_b : Bad fun s => (rdNStr s).2 := fun s h => by
  simp only [rdNStr]
  split
  · exact rdI_b 2 s h
  · exact rdStr_b s h
theorem rdCNStr_b : Bad fun s => (rdCNStr s).2 := fun s h => by
  simp only [rdCNStr]
  split
  · exact rdUv_b s h
  · exact rdCStr_b s h
theorem rdSpO_b (n : Int) : Bad fun s => (rdSpO n s).2 := rdSpan_b n
theorem rdBy_b : Bad fun s => (rdBy s).2 := fun s h => by
  simp only [rdBy]
  split
  · exact rdI_b 4 s h
  · exact rdSpO_b _ _ (rdI_b 4 s h)
theorem rdNBy_b : Bad fun s => (rdNBy s).2 := fun s h => by
  simp only [rdNBy]
  split
  · exact rdI_b 4 s h
  · exact rdSpO_b _ _ (rdI_b 4 s h)
theorem rdCBy_b : Bad fun s => (rdCBy s).2 := fun s h => by
  simp only [rdCBy]
  split
  · exact rdUv_b s h
  · exact rdSpO_b _ _ (rdUv_b s h)
theorem rdCNBy_b : Bad fun s => (rdCNBy s).2 := fun s h => by
  simp only [rdCNBy]
  split
  · exact rdUv_b s h
  · exact rdSpO_b _ _ (rdUv_b s h)
def IsBad (x : T × St) : Prop := x.2.2 = true
theorem rdK_b (kind : Int) (nul flex : Bool) {part : St → T × St} (hp : Bad fun s => (part s).2) : Bad fun s => (rdK kind nul flex part s).2 := fun s h => by
  have Q : IsBad (rdK kind nul flex part s) := by
    unfold rdK
    refine ite_p IsBad (rdN_b 1 s h) ?_
    refine ite_p IsBad (rdI_b 1 s h) ?_
    refine ite_p IsBad (rdI_b 2 s h) ?_
    refine ite_p IsBad (rdI_b 4 s h) ?_
    refine ite_p IsBad (rdI_b 8 s h) ?_
    refine ite_p IsBad (rdN_b 2 s h) ?_
    refine ite_p IsBad (rdI_b 8 s h) ?_
    refine ite_p IsBad (rdSpan_b 16 s h) ?_
    refine ite_p IsBad (ite_p IsBad (ite_p IsBad (rdCNStr_b s h) (rdNStr_b s h)) (ite_p IsBad (rdCStr_b s h) (rdStr_b s h))) ?_
    refine ite_p IsBad (ite_p IsBad (ite_p IsBad (rdCNBy_b s h) (rdNBy_b s h)) (ite_p IsBad (rdCBy_b s h) (rdBy_b s h))) ?_
    exact ite_p IsBad (hp s h) h
  exact Q
theorem rdListOf_b (nul : Int) (flex : Bool) (v : Int) {g : St → T × St} (hg : Bad fun s => (g s).2) : Bad fun s => (rdListOf nul flex v g s).2 := fun s h => by
  cases flex
  · exact rdTimes_b hg _ _ (rdLen_b s h)
  · exact rdTimes_b hg _ _ (rdCLen_b s h)
mutual
theorem rdF_b : ∀ (f : F) (v : Int) (flex : Bool), Bad fun s => (rdF f v flex s).2
  | .mk k a b nul c d ofk sub, v, flex, s, h => by
    have hp := rdPartOf_b (rdFs_b sub v flex) flex
    simp only [rdF]
    split
    · exact rdListOf_b nul flex v (rdK_b ofk false flex hp) s h
    · exact rdK_b k _ flex hp s h
theorem rdFs_b : ∀ (l : List F) (v : Int) (flex : Bool), Bad fun s => (rdFs l v flex s).2
  | [], _, _, _, h => h
  | f :: r, v, flex, s, h => by
    simp only [rdFs]
    split
    · exact rdFs_b r v flex _ (rdF_b f v flex s h)
    · exact rdFs_b r v flex s h
end
theorem rdPart_b (fs : List F) (v : Int) (flex : Bool) : Bad fun s => (rdPart fs v flex s).2 := rdPartOf_b (rdFs_b fs v flex) flex

/-- HOW WHAT WAS READ LIES -/
def VK (W : World) (G : Nat → Prop) (kind nul : Int) (part : List Value → List T → Prop) (c : List Value) (t : T) : Prop :=
  if kind = 0 then ∃ b : Bool, c = [.bool b] ∧ t = .mk (if b then 1 else 0) [] false [] []
  else if kind = 1 then ∃ n : Int, c = [.int .i8 n] ∧ (-128 ≤ n ∧ n ≤ 127) ∧ t = .mk n [] false [] []
  else if kind = 2 then ∃ n : Int, c = [.int .i16 n] ∧ (-32768 ≤ n ∧ n ≤ 32767) ∧ t = .mk n [] false [] []
  else if kind = 3 then ∃ n : Int, c = [.int .i32 n] ∧ (-2147483648 ≤ n ∧ n ≤ 2147483647) ∧ t = .mk n [] false [] []
  else if kind = 4 then ∃ n : Int, c = [.int .i64 n] ∧ (-9223372036854775808 ≤ n ∧ n ≤ 9223372036854775807) ∧ t = .mk n [] false [] []
  else if kind = 5 then ∃ n : Int, c = [.int .u16 n] ∧ (0 ≤ n ∧ n ≤ 65535) ∧ t = .mk n [] false [] []
  else if kind = 7 then ∃ x : Bs, x.length = 16 ∧ c = x.map bv ∧ t = .mk 0 x false [] []
  else if kind = 8 then (if 0 ≤ nul then ∃ v o, c = [v] ∧ PS W G v o ∧ t = nstrT o else ∃ x : Bs, c = [str x] ∧ t = .mk 0 x false [] [])
  else if kind = 9 then ∃ v o, c = [v] ∧ OS W G v o ∧ t = octT o
  else if kind = 10 then ∃ cs v l u, c = cs ++ [v] ∧ part cs l ∧ MP W G v u ∧ t = .mk 0 [] false l u
  else if kind = 6 then ∃ n : Nat, n < 18446744073709551616 ∧ c = [.float .f64 n] ∧ t = .mk (sgn 8 n) [] false [] []
  else False
/-- a slice that begins its block: n things whose cells are xs -/
def RW (W : World) (G : Nat → Prop) (v : Value) (n : Nat) (xs : List Value) : Prop :=
  (n = 0 ∧ xs = [] ∧ (v = .slice none 0 0 ∨ ∃ b, v = .slice (some ⟨b, 0, none⟩) 0 0)) ∨
  (0 < n ∧ ∃ row cap extra ty, v = .slice (some ⟨row, 0, none⟩) n cap ∧ n ≤ cap ∧ G row ∧ W.heap[row]? = some (.cells (xs ++ extra).toArray ty (0, 0)))
theorem RW.keepF {W W' : World} {F' G : Nat → Prop} {v : Value} {n : Nat} {xs : List Value} (hs : SameOn F' W W') (hg : ∀ k, F' k → G k) (h : RW W F' v n xs) : RW W' G v n xs := by
  rcases h with h | ⟨h0, row, cap, extra, ty, h1, h2, h3, h4⟩
  · exact .inl h
  · exact .inr ⟨h0, row, cap, extra, ty, h1, h2, hg _ h3, (hs _ h3).trans h4⟩
theorem RW.shape {W : World} {G : Nat → Prop} {v : Value} {n : Nat} {xs : List Value} (h : RW W G v n xs) : ∃ ao cap, v = .slice ao n cap ∧ n ≤ cap ∧ (ao = none → n = 0 ∧ cap = 0) := by
  rcases h with ⟨rfl, _, rfl | ⟨b, rfl⟩⟩ | ⟨h0, row, cap, extra, ty, rfl, h2, _, _⟩
  · exact ⟨none, 0, rfl, Nat.le_refl _, fun _ => ⟨rfl, rfl⟩⟩
  · exact ⟨_, 0, rfl, Nat.le_refl _, fun e => by cases e⟩
  · exact ⟨_, cap, rfl, h2, fun e => by cases e⟩
/-- a list: its elements' cells, one behind another -/
def VL (W : World) (G : Nat → Prop) (P : List Value → T → Prop) (m : Nat) (v : Value) (t : T) : Prop :=
  ∃ (null : Bool) (css : List (List Value)) (l : List T), css.length = l.length ∧ (∀ i (h1 : i < l.length) (h2 : i < css.length), css[i].length = m ∧ P css[i] l[i]) ∧ RW W G v css.length css.flatten ∧ (v = .slice none 0 0 ↔ null = true) ∧ t = .mk 0 [] null l []
def wdK (kind : Int) (sub : Nat) : Nat := if kind = 7 then 16 else if kind = 10 then sub + 1 else 1
mutual
/-- how many cells a field has -/
def wdF : F → Nat
  | .mk k _ _ _ _ _ _ sub => wdK k (wdFs sub)
def wdFs : List F → Nat
  | [] => 0
  | f :: r => wdF f + wdFs r
end
mutual
def VF (W : World) (G : Nat → Prop) : F → List Value → T → Prop
  | .mk k _ _ nul _ _ ofk sub, c, t =>
    if k = 11 then ∃ v, c = [v] ∧ VL W G (VK W G ofk (-1) (VFs W G sub)) (wdK ofk (wdFs sub)) v t
    else VK W G k nul (VFs W G sub) c t
def VFs (W : World) (G : Nat → Prop) : List F → List Value → List T → Prop
  | [], c, l => c = [] ∧ l = []
  | f :: r, c, l => ∃ c1 c2 t1 l2, c = c1 ++ c2 ∧ l = t1 :: l2 ∧ VF W G f c1 t1 ∧ VFs W G r c2 l2
end
/-- a message's struct: its version, its fields, its tags -/
def VM (W : World) (G : Nat → Prop) (b : Nat) (fs : List F) (ty : TypeId) (ver : Int) (t : T) : Prop :=
  ∃ cs v l u, W.heap[b]? = some (.cells (.int .i16 ver :: (cs ++ [v])).toArray ty (0, 0)) ∧ VFs W G fs cs l ∧ MP W G v u ∧ t = .mk 0 [] false l u

section
variable {W W' : World} {F' G : Nat → Prop}
theorem VK.keepF {kind nul : Int} {p q : List Value → List T → Prop} (hs : SameOn F' W W') (hg : ∀ k, F' k → G k) (hp : ∀ c l, p c l → q c l) {c : List Value} {t : T} (h : VK W F' kind nul p c t) : VK W' G kind nul q c t := by
  unfold VK at h ⊢
  refine ite_imp id (ite_imp id (ite_imp id (ite_imp id (ite_imp id (ite_imp id (ite_imp id (ite_imp (ite_imp ?_ id) (ite_imp ?_ (ite_imp ?_ (ite_imp id id)))))))))) h
  · rintro ⟨v, o, h1, h2, h3⟩
    exact ⟨v, o, h1, h2.keepF hs hg, h3⟩
  · rintro ⟨v, o, h1, h2, h3⟩
    exact ⟨v, o, h1, h2.keepF hs hg, h3⟩
  · rintro ⟨cs, v, l, u, h1, h2, h3, h4⟩
    exact ⟨cs, v, l, u, h1, hp _ _ h2, h3.keepF hs hg, h4⟩
theorem VL.keepF {p q : List Value → T → Prop} (hs : SameOn F' W W') (hg : ∀ k, F' k → G k) (hp : ∀ c t, p c t → q c t) {m : Nat} {v : Value} {t : T} (h : VL W F' p m v t) : VL W' G q m v t := by
  obtain ⟨null, css, l, h1, h2, h3, h4, h5⟩ := h
  exact ⟨null, css, l, h1, fun i a b => ⟨(h2 i a b).1, hp _ _ (h2 i a b).2⟩, h3.keepF hs hg, h4, h5⟩
mutual
theorem VF.keepF (hs : SameOn F' W W') (hg : ∀ k, F' k → G k) : ∀ (f : F) {c : List Value} {t : T}, VF W F' f c t → VF W' G f c t
  | .mk k a b nul d e ofk sub, c, t, h => by
    have hp := fun c l => VFs.keepF hs hg sub (c := c) (l := l)
    simp only [VF] at h ⊢
    split
    · rename_i hk
      rw [if_pos hk] at h
      obtain ⟨v, h1, h2⟩ := h
      exact ⟨v, h1, h2.keepF hs hg (fun c t => VK.keepF hs hg hp)⟩
    · rename_i hk
      rw [if_neg hk] at h
      exact VK.keepF hs hg hp h
theorem VFs.keepF (hs : SameOn F' W W') (hg : ∀ k, F' k → G k) : ∀ (fs : List F) {c : List Value} {l : List T}, VFs W F' fs c l → VFs W' G fs c l
  | [], _, _, h => h
  | f :: r, c, l, h => by
    obtain ⟨c1, c2, t1, l2, h1, h2, h3, h4⟩ := h
    exact ⟨c1, c2, t1, l2, h1, h2, VF.keepF hs hg f h3, VFs.keepF hs hg r h4⟩
end
end
end Go.Proofs.YtodbdecpacdgiaaDoor
