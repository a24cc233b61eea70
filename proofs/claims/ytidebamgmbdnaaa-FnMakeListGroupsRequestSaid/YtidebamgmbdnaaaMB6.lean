/-
  Reader.Complete.
-/
import Derived.Test.YtidebamgmbdnaaaMB5
import Derived.Laws.IdiomStrings
import Derived.Laws.BytesArg
import Derived.Lib.AppendStr
import Derived.Maps.RangeWalk
namespace Go.Proofs.Ytidebamgmbdnaaa
open Go.ChangeShapes Go.WideShapes Go.ChangeAt Go.RowKit

end Go.Proofs.Ytidebamgmbdnaaa
/-
  Reader.Span.
-/
namespace Go.Proofs.Ytidebamgmbdnaaa
open Go.ChangeShapes Go.WideShapes Go.ChangeAt Go.RowKit

def rdSpan (n : Int) (s : St) : Bs × St := if (s.1.length : Int) < n ∨ n < 0 then ([], ([], true)) else (s.1.take n.toNat, (s.1.drop n.toNat, s.2))
theorem RB.cut {w : World} {G : Nat → Prop} {b o n cap : Nat} {l : Bs} (h : RB w G (.slice (some ⟨b, o, none⟩) n cap) l) (m : Nat) (hm : m ≤ l.length) : RB w G (.slice (some ⟨b, o, none⟩) m m) (l.take m) := by
  obtain ⟨ao', cap', e, h1, h2, h3⟩ := h
  cases e
  have hl : (l.take m).length = m := by simp; omega
  refine ⟨_, m, by rw [hl], by omega, (fun h => by cases h), fun a ha => ?_⟩
  cases ha
  refine ⟨fun _ => rfl, fun i hi => ?_⟩
  have hi' : i < (l.map bv).length := by simp at hi ⊢; omega
  obtain ⟨q1, q2⟩ := (h3 _ rfl).2 i hi'
  refine ⟨q1, ?_⟩
  rw [q2]
  simp
end Go.Proofs.Ytidebamgmbdnaaa
/-
  Reader.String, UnsafeString.
-/
namespace Go.Proofs.Ytidebamgmbdnaaa
open Go.ChangeShapes Go.WideShapes Go.ChangeAt Go.RowKit

def rdStr (s : St) : Bs × St := rdSpan (rdI 2 s).1 (rdI 2 s).2
/-- octets as a text of the model -/
def str (l : Bs) : Value := .string ⟨l.toArray⟩
theorem conv_any {G : Nat → Prop} {ao : Option Addr} {cap : Nat} {l : Bs} {w : World} (h : RB w G (.slice ao l.length cap) l) :
    (convert 22 9 (.slice ao l.length cap)).run Try.prog w = .ok (str l) w := by
  cases ao with
  | none =>
    obtain ⟨_, _, e, _, hn, _⟩ := h
    cases e
    have hl : l = [] := List.eq_nil_of_length_eq_zero (hn rfl).1
    subst hl
    exact run_convert_bytes_nil w 22 5 Try.underlying22 Try.underlying5 _ _ _ Try.underlying9
  | some a =>
    obtain ⟨_, _, e, _, _, hc⟩ := h
    cases e
    obtain ⟨b, o, sp⟩ := a
    obtain ⟨g1, g2⟩ := hc _ rfl
    exact run_convert_bytes_back w _ _ _ _ _ l Try.underlying22 Try.underlying5 Try.underlying9 (fun j hj => by
      replace g1 := g1 (by simp; omega)
      simp only at g1
      subst g1
      rw [addr_add]
      have := (g2 j (by simpa using hj)).2
      simpa [bv] using this)
end Go.Proofs.Ytidebamgmbdnaaa
/-
  kbin.AppendInt16.
-/
namespace Go.Proofs.Ytidebamgmbdnaaa
open Go.ChangeShapes Go.WideShapes Go.ChangeAt Go.RowKit

theorem below_grown {B : Nat} {w w1 w2 : World} {v : Value} {l : Bs} (hb : Below B w w1) (hB : B ≤ w.heap.size) (ho : OB w1 B v l) (hg : w1.grownBy w2 v.ownBlock) : Below B w w2 :=
  ⟨hg.os.trans hb.os, hg.tape.trans hb.tape, hg.output.trans hb.output, Nat.le_trans hb.size hg.size, fun k hk => (hg.block k (by have := hb.size; omega) (fun e => by have := (ho.lt k e.symm).1; omega)).trans (hb.block k hk)⟩
set_option maxHeartbeats 400000 in
set_option maxRecDepth 100000 in
theorem appu16_any {B : Nat} {v : Value} {acc : Bs} {w : World} {n : Int} (ho : OB w B v acc) (hB : B ≤ w.heap.size) (hn : 0 ≤ n ∧ n ≤ 65535) (hl : acc.length ≤ 41000000000000) :
    Calls Try.prog 98 #[v, .int .u16 n] w fun e w' => ∃ v', e = .returned v' ∧ OB w' B v' (acc ++ fixedP n 2) ∧ Below B w w' := by
  obtain ⟨ao, cap, rfl⟩ := ho.len
  obtain ⟨hn1, hn2⟩ := hn
  go_enter Try.func98, Try.ntmps98
  have hc : (#[.int .u8 (n / 256), .int .u8 (n % 256)] : Array Value).toList = [oct n 1, oct n 0].map bv := by
    have e1 : n / 2 ^ (8 * 1) % 256 = n / 256 := by omega
    have e0 : n / 2 ^ (8 * 0) % 256 = n % 256 := by omega
    simp only [List.map_cons, List.map_nil, oct_cell, e1, e0]
  have HC : Hid _ := hc
  clear hc
  go_wp2_with (at_builtin; go_loud (refine app_new rfl (.tmp 5) (.tmp 11) rfl B _ acc rfl ho _ [oct n 1, oct n 0] 2 rfl HC.out rfl (by simp; omega) hB ?_; intro v' w' hown hgr))
  go_ret
  exact ⟨_, rfl, hown, below_grown (Below.refl _ _) hB ho hgr⟩
theorem oct_mod (n : Int) : fixedP (n % 65536) 2 = fixedP n 2 := by
  have h1 : n % 65536 / 2 ^ (8 * 1) % 256 = n / 2 ^ (8 * 1) % 256 := by omega
  have h0 : n % 65536 / 2 ^ (8 * 0) % 256 = n / 2 ^ (8 * 0) % 256 := by omega
  simp only [fixedP, oct, h1, h0]
set_option maxHeartbeats 400000 in
set_option maxRecDepth 100000 in
theorem appi16_any {B : Nat} {v : Value} {acc : Bs} {w : World} {n : Int} (ho : OB w B v acc) (hB : B ≤ w.heap.size) (hl : acc.length ≤ 41000000000000) :
    Calls Try.prog 66 #[v, .int .i16 n] w fun e w' => ∃ v', e = .returned v' ∧ OB w' B v' (acc ++ fixedP n 2) ∧ Below B w w' := by
  have hw : IntKind.u16.wrap n = n % 65536 := IntKind.wrap_u16 n
  have AP := appu16_any (n := n % 65536) ho hB (by omega) hl
  rw [oct_mod] at AP
  go_enter Try.func66, Try.ntmps66
  go_wp2_with (go_at_call 98; go_loud ((try rw [hw]); refine AP.mono ?_; rintro e w1 ⟨v', rfl, h1, h2⟩))
  go_ret
  exact ⟨_, rfl, h1, h2⟩
end Go.Proofs.Ytidebamgmbdnaaa
/-
  kbin.AppendString.
-/
namespace Go.Proofs.Ytidebamgmbdnaaa
open Go.ChangeShapes Go.WideShapes Go.ChangeAt Go.RowKit

theorem strCells_str (l : Bs) : Lib.strCells ⟨l.toArray⟩ = l.map bv := by
  simp only [Lib.strCells]
  rfl
theorem str_size (l : Bs) : (⟨l.toArray⟩ : ByteArray).size = l.length := by
  simp [ByteArray.size]
section
variable {w : World} {ops : Array Oper} {rest : List Oper} {o : Oper} {a : Act} {Q : Exit → Act → World → Prop}
set_option maxRecDepth 100000 in
/-- append of a text's octets -/
theorem app_text (hgd : o.guard = none) (s x : Operand) (ho : o.op = .call { callee := .builtin .append, args := #[s, x], argTypes := #[22, 9] })
    (B : Nat) (v : Value) (acc : Bs) (hs : a.eval s = v) (hown : OB w B v acc) (l : Bs) (hx : a.eval x = str l)
    (hlen : acc.length + l.length ≤ 70368744177664) (hB : B ≤ w.heap.size)
    (h : ∀ v' w', OB w' B v' (acc ++ l) → w.grownBy w' v.ownBlock → wpList Try.prog ops Q rest (a.put o.dst v') w') : wpList Try.prog ops Q (o :: rest) a w := by
  obtain ⟨i0, hi, hz0, hz1, hz2⟩ := info_parts info_u8
  refine Lib.wpList_append_own_string w hgd s x _ _ ho B 5 i0 Try.underlying22 Try.underlying9 hi hz0 hz1 hz2 v acc.length (acc.map bv) hs hown ⟨l.toArray⟩ hx (by rw [str_size]; unfold maxLen; omega) (by rw [str_size]; omega) hB ?_
  intro v' w' h1 h2 _
  rw [str_size, strCells_str] at h1
  exact h v' w' (by unfold OB; rw [List.length_append, List.map_append]; exact h1) h2
end
theorem oct_wrap16 (n : Int) : fixedP (IntKind.i16.wrap n) 2 = fixedP n 2 := by
  have h1 : IntKind.i16.wrap n / 2 ^ (8 * 1) % 256 = n / 2 ^ (8 * 1) % 256 := by rw [wrap_i16']; split <;> omega
  have h0 : IntKind.i16.wrap n / 2 ^ (8 * 0) % 256 = n / 2 ^ (8 * 0) % 256 := by rw [wrap_i16']; split <;> omega
  simp only [fixedP, oct, h1, h0]
set_option maxHeartbeats 400000 in
set_option maxRecDepth 100000 in
theorem appstr_any {B : Nat} {v : Value} {acc s : Bs} {w : World} (ho : OB w B v acc) (hB : B ≤ w.heap.size) (hl : acc.length ≤ 40500000000000) (hs : s.length ≤ 1000000000000) :
    Calls Try.prog 82 #[v, str s] w fun e w' => ∃ v', e = .returned v' ∧ OB w' B v' (acc ++ (fixedP s.length 2 ++ s)) ∧ Below B w w' := by
  have AP := appi16_any (n := IntKind.i16.wrap s.length) ho hB (by omega)
  rw [oct_wrap16] at AP
  have hsz := str_size s
  go_enter Try.func82, Try.ntmps82
  unfold str
  go_wp2_with (first
    | (go_at_call 66; go_loud (refine AP.mono ?_; rintro e w1 ⟨v1, rfl, h1, b1⟩))
    | (at_builtin; go_loud (refine app_text rfl (.tmp 10) (.tmp 11) rfl B _ (acc ++ fixedP s.length 2) rfl h1 s rfl (by simp [fixedP]; omega) (Nat.le_trans hB b1.size) ?_; intro v2 w2 h2 g2)))
  go_ret
  exact ⟨_, rfl, by rw [← List.append_assoc]; exact h2, below_grown b1 hB h1 g2⟩
end Go.Proofs.Ytidebamgmbdnaaa
/-
  kbin.AppendBool, AppendInt8, AppendInt32, AppendInt64, AppendArrayLen: numbers onto octets of the call's own.
-/
namespace Go.Proofs.Ytidebamgmbdnaaa
open Go.ChangeShapes Go.WideShapes Go.ChangeAt Go.RowKit

/-- w' is w, with octets that lie at v' -/
def Apd (B : Nat) (w w' : World) (v' : Value) (l : Bs) : Prop := OB w' B v' l ∧ Below B w w'
set_option maxHeartbeats 400000 in
set_option maxRecDepth 100000 in
theorem appu32_any {B : Nat} {v : Value} {acc : Bs} {w : World} {n : Int} (ho : OB w B v acc) (hB : B ≤ w.heap.size) (hn : 0 ≤ n ∧ n ≤ 4294967295) (hl : acc.length ≤ 41000000000000) :
    Calls Try.prog 97 #[v, .int .u32 n] w fun e w' => ∃ v', e = .returned v' ∧ OB w' B v' (acc ++ fixedP n 4) ∧ Below B w w' := by
  obtain ⟨ao, cap, rfl⟩ := ho.len
  obtain ⟨hn1, hn2⟩ := hn
  go_enter Try.func97, Try.ntmps97
  have hc : (#[.int .u8 (n / 16777216), .int .u8 (n / 65536 % 256), .int .u8 (n / 256 % 256), .int .u8 (n % 256)] : Array Value).toList = [oct n 3, oct n 2, oct n 1, oct n 0].map bv := by
    have e3 : n / 2 ^ (8 * 3) % 256 = n / 16777216 := by omega
    have e2 : n / 2 ^ (8 * 2) % 256 = n / 65536 % 256 := by omega
    have e1 : n / 2 ^ (8 * 1) % 256 = n / 256 % 256 := by omega
    have e0 : n / 2 ^ (8 * 0) % 256 = n % 256 := by omega
    simp only [List.map_cons, List.map_nil, oct_cell, e3, e2, e1, e0]
  have HC : Hid _ := hc
  clear hc
  go_wp2_with (at_builtin; go_loud (refine app_new rfl _ _ rfl B _ acc rfl ho _ [oct n 3, oct n 2, oct n 1, oct n 0] 4 rfl HC.out rfl (by simp; omega) hB ?_; intro v' w' hown hgr))
  go_ret
  exact ⟨_, rfl, hown, below_grown (Below.refl _ _) hB ho hgr⟩
theorem oct_mod4 (n : Int) : fixedP (n % 4294967296) 4 = fixedP n 4 := by
  have h3 : n % 4294967296 / 2 ^ (8 * 3) % 256 = n / 2 ^ (8 * 3) % 256 := by omega
  have h2 : n % 4294967296 / 2 ^ (8 * 2) % 256 = n / 2 ^ (8 * 2) % 256 := by omega
  have h1 : n % 4294967296 / 2 ^ (8 * 1) % 256 = n / 2 ^ (8 * 1) % 256 := by omega
  have h0 : n % 4294967296 / 2 ^ (8 * 0) % 256 = n / 2 ^ (8 * 0) % 256 := by omega
  simp only [fixedP, oct, h3, h2, h1, h0]
set_option maxHeartbeats 400000 in
set_option maxRecDepth 100000 in
theorem appi32_any {B : Nat} {v : Value} {acc : Bs} {w : World} {n : Int} (ho : OB w B v acc) (hB : B ≤ w.heap.size) (hl : acc.length ≤ 41000000000000) :
    Calls Try.prog 65 #[v, .int .i32 n] w fun e w' => ∃ v', e = .returned v' ∧ OB w' B v' (acc ++ fixedP n 4) ∧ Below B w w' := by
  have hw : IntKind.u32.wrap n = n % 4294967296 := IntKind.wrap_u32 n
  have AP := appu32_any (n := n % 4294967296) ho hB (by omega) hl
  rw [oct_mod4] at AP
  go_enter Try.func65, Try.ntmps65
  go_wp2_with (go_at_call 97; go_loud ((try rw [hw]); refine AP.mono ?_; rintro e w1 ⟨v', rfl, h1, h2⟩))
  go_ret
  exact ⟨_, rfl, h1, h2⟩
set_option maxHeartbeats 800000 in
set_option maxRecDepth 100000 in
theorem appu64_any {B : Nat} {v : Value} {acc : Bs} {w : World} {n : Int} (ho : OB w B v acc) (hB : B ≤ w.heap.size) (hn : 0 ≤ n ∧ n ≤ 18446744073709551615) (hl : acc.length ≤ 41000000000000) :
    Calls Try.prog 99 #[v, .int .u64 n] w fun e w' => ∃ v', e = .returned v' ∧ OB w' B v' (acc ++ fixedP n 8) ∧ Below B w w' := by
  obtain ⟨ao, cap, rfl⟩ := ho.len
  obtain ⟨hn1, hn2⟩ := hn
  go_enter Try.func99, Try.ntmps99
  have hc : (#[.int .u8 (n / 72057594037927936), .int .u8 (n / 281474976710656 % 256), .int .u8 (n / 1099511627776 % 256), .int .u8 (n / 4294967296 % 256), .int .u8 (n / 16777216 % 256), .int .u8 (n / 65536 % 256), .int .u8 (n / 256 % 256), .int .u8 (n % 256)] : Array Value).toList = [oct n 7, oct n 6, oct n 5, oct n 4, oct n 3, oct n 2, oct n 1, oct n 0].map bv := by
    have e7 : n / 2 ^ (8 * 7) % 256 = n / 72057594037927936 := by omega
    have e6 : n / 2 ^ (8 * 6) % 256 = n / 281474976710656 % 256 := by omega
    have e5 : n / 2 ^ (8 * 5) % 256 = n / 1099511627776 % 256 := by omega
    have e4 : n / 2 ^ (8 * 4) % 256 = n / 4294967296 % 256 := by omega
    have e3 : n / 2 ^ (8 * 3) % 256 = n / 16777216 % 256 := by omega
    have e2 : n / 2 ^ (8 * 2) % 256 = n / 65536 % 256 := by omega
    have e1 : n / 2 ^ (8 * 1) % 256 = n / 256 % 256 := by omega
    have e0 : n / 2 ^ (8 * 0) % 256 = n % 256 := by omega
    simp only [List.map_cons, List.map_nil, oct_cell, e7, e6, e5, e4, e3, e2, e1, e0]
  have HC : Hid _ := hc
  clear hc
  go_wp2_with (at_builtin; go_loud (refine app_new rfl _ _ rfl B _ acc rfl ho _ [oct n 7, oct n 6, oct n 5, oct n 4, oct n 3, oct n 2, oct n 1, oct n 0] 8 rfl HC.out rfl (by simp; omega) hB ?_; intro v' w' hown hgr))
  go_ret
  exact ⟨_, rfl, hown, below_grown (Below.refl _ _) hB ho hgr⟩
theorem oct_mod8 (n : Int) : fixedP (n % 18446744073709551616) 8 = fixedP n 8 := by
  have h7 : n % 18446744073709551616 / 2 ^ (8 * 7) % 256 = n / 2 ^ (8 * 7) % 256 := by omega
  have h6 : n % 18446744073709551616 / 2 ^ (8 * 6) % 256 = n / 2 ^ (8 * 6) % 256 := by omega
  have h5 : n % 18446744073709551616 / 2 ^ (8 * 5) % 256 = n / 2 ^ (8 * 5) % 256 := by omega
  have h4 : n % 18446744073709551616 / 2 ^ (8 * 4) % 256 = n / 2 ^ (8 * 4) % 256 := by omega
  have h3 : n % 18446744073709551616 / 2 ^ (8 * 3) % 256 = n / 2 ^ (8 * 3) % 256 := by omega
  have h2 : n % 18446744073709551616 / 2 ^ (8 * 2) % 256 = n / 2 ^ (8 * 2) % 256 := by omega
  have h1 : n % 18446744073709551616 / 2 ^ (8 * 1) % 256 = n / 2 ^ (8 * 1) % 256 := by omega
  have h0 : n % 18446744073709551616 / 2 ^ (8 * 0) % 256 = n / 2 ^ (8 * 0) % 256 := by omega
  simp only [fixedP, oct, h7, h6, h5, h4, h3, h2, h1, h0]
set_option maxHeartbeats 400000 in
set_option maxRecDepth 100000 in
theorem appi64_any {B : Nat} {v : Value} {acc : Bs} {w : World} {n : Int} (ho : OB w B v acc) (hB : B ≤ w.heap.size) (hl : acc.length ≤ 41000000000000) :
    Calls Try.prog 67 #[v, .int .i64 n] w fun e w' => ∃ v', e = .returned v' ∧ OB w' B v' (acc ++ fixedP n 8) ∧ Below B w w' := by
  have hw : IntKind.u64.wrap n = n % 18446744073709551616 := IntKind.wrap_u64 n
  have AP := appu64_any (n := n % 18446744073709551616) ho hB (by omega) hl
  rw [oct_mod8] at AP
  go_enter Try.func67, Try.ntmps67
  go_wp2_with (go_at_call 99; go_loud ((try rw [hw]); refine AP.mono ?_; rintro e w1 ⟨v', rfl, h1, h2⟩))
  go_ret
  exact ⟨_, rfl, h1, h2⟩
end Go.Proofs.Ytidebamgmbdnaaa
/-
  UNKNOWN TAGS AS LISTS BY RISING NUMBERS, and as what a map of the call's own reads as. No program's text is walked here.
-/
namespace Go.Proofs.Ytidebamgmbdnaaa
open Go.RowKit
open Go.Maps (Keyed)

section
variable {α β : Type}
def insK (x : Nat × α) : List (Nat × α) → List (Nat × α)
  | [] => [x]
  | y :: r => if x.1 < y.1 then x :: y :: r else y :: insK x r
/-- set a tag -/
def putK (l : List (Nat × α)) (k : Nat) (x : α) : List (Nat × α) := insK (k, x) (l.filter fun y => decide (y.1 ≠ k))
def Rising (l : List (Nat × α)) : Prop := l.Pairwise fun a b => a.1 < b.1
theorem mem_insK {x y : Nat × α} : ∀ {l : List (Nat × α)}, y ∈ insK x l ↔ y = x ∨ y ∈ l
  | [] => by simp [insK]
  | z :: r => by
    unfold insK
    split
    · simp
    · simp only [List.mem_cons, mem_insK (l := r)]
      constructor
      · rintro (h | h | h)
        · exact .inr (.inl h)
        · exact .inl h
        · exact .inr (.inr h)
      · rintro (h | h | h)
        · exact .inr (.inl h)
        · exact .inl h
        · exact .inr (.inr h)
theorem length_insK (x : Nat × α) : ∀ l : List (Nat × α), (insK x l).length = l.length + 1
  | [] => rfl
  | z :: r => by
    unfold insK
    split
    · rfl
    · simp [length_insK x r]
theorem insK_map (f : α → β) (x : Nat × α) : ∀ l : List (Nat × α), (insK x l).map (fun y => (y.1, f y.2)) = insK (x.1, f x.2) (l.map fun y => (y.1, f y.2))
  | [] => rfl
  | z :: r => by
    unfold insK
    simp only [List.map_cons]
    split
    · simp
    · simp [insK_map f x r]
theorem putK_map (f : α → β) (l : List (Nat × α)) (k : Nat) (x : α) : (putK l k x).map (fun y => (y.1, f y.2)) = putK (l.map fun y => (y.1, f y.2)) k (f x) := by
  unfold putK
  rw [insK_map]
  congr 1
  induction l with
  | nil => rfl
  | cons z r ih =>
    simp only [List.filter_cons, List.map_cons]
    by_cases h : z.1 = k
    · simp [h]
      simpa using ih
    · simp [h]
      simpa using ih
theorem mem_putK {l : List (Nat × α)} {k : Nat} {x : α} {y : Nat × α} (h : y ∈ putK l k x) : y = (k, x) ∨ y ∈ l := by
  rcases mem_insK.1 h with h | h
  · exact .inl h
  · exact .inr (List.mem_filter.1 h).1
theorem length_putK (l : List (Nat × α)) (k : Nat) (x : α) : (putK l k x).length ≤ l.length + 1 := by
  unfold putK
  rw [length_insK]
  have := List.length_filter_le (fun y => decide (y.1 ≠ k)) l
  omega
theorem rising_insK {x : Nat × α} : ∀ {l : List (Nat × α)}, Rising l → (∀ y ∈ l, y.1 ≠ x.1) → Rising (insK x l)
  | [], _, _ => by simp [insK, Rising]
  | z :: r, h, hn => by
    obtain ⟨h1, h2⟩ := List.pairwise_cons.1 h
    unfold insK
    split
    · rename_i hlt
      exact List.pairwise_cons.2 ⟨fun y hy => by
        rcases List.mem_cons.1 hy with e | hy
        · rw [e]; exact hlt
        · exact Nat.lt_trans hlt (h1 y hy), h⟩
    · rename_i hlt
      refine List.pairwise_cons.2 ⟨fun y hy => ?_, rising_insK h2 fun y hy => hn y (List.mem_cons_of_mem _ hy)⟩
      rcases mem_insK.1 hy with e | hy
      · rw [e]; have := hn z (by simp); omega
      · exact h1 y hy
theorem rising_putK {l : List (Nat × α)} (h : Rising l) (k : Nat) (x : α) : Rising (putK l k x) :=
  rising_insK (h.filter _) fun y hy => by simpa using (List.mem_filter.1 hy).2
theorem rising_nil : Rising ([] : List (Nat × α)) := List.Pairwise.nil
end

/-- an element reads as itself -/
def tR (v : Value) : Option (DataW Value × List MemPlace) := some (.held v, [])
def tE (x : Nat × Value) : Lit × DataW Value := (.int .u32 (x.1 : Int), .held x.2)
def tD (l : List (Nat × Value)) : DataW Value := .map (l.map tE)
theorem tE_insert (x : Nat × Value) : ∀ l : List (Nat × Value), DataW.insert (tE x) (l.map tE) = (insK x l).map tE
  | [] => rfl
  | y :: r => by
    simp only [List.map_cons, DataW.insert, insK]
    have e : (tE x).1.before (tE y).1 = decide (x.1 < y.1) := by simp [tE, Lit.before]
    rw [e]
    by_cases h : x.1 < y.1
    · simp [h]
    · simp [h, tE_insert x r]
theorem tD_put (l : List (Nat × Value)) (k : Nat) (v : Value) : (tD l).put (.int .u32 (k : Int)) (.held v) = tD (putK l k v) := by
  unfold tD DataW.put putK
  simp only
  have e : ((l.map tE).filter fun p => !p.1.sameKey (.int .u32 (k : Int))) = (l.filter fun y => decide (y.1 ≠ k)).map tE := by
    induction l with
    | nil => rfl
    | cons z r ih =>
      simp only [List.map_cons, List.filter_cons]
      have e1 : (!(tE z).1.sameKey (.int .u32 (k : Int))) = decide (z.1 ≠ k) := by
        by_cases h : z.1 = k
        · simp [tE, Lit.sameKey, h]
        · simp [tE, Lit.sameKey, h]; omega
      rw [e1]
      by_cases h : z.1 = k
      · simp [h, ih]
      · simp [h, ih]
  rw [e]
  exact congrArg DataW.map (tE_insert (k, v) _)
theorem tD_size (l : List (Nat × Value)) : Maps.size (tD l) = l.length := by simp [tD, Maps.size]
theorem tD_has {l : List (Nat × Value)} {k : Int} (h : Maps.has (tD l) (.int .u32 k) = true) : ∃ x ∈ l, (x.1 : Int) = k := by
  simp only [tD, Maps.has, List.any_map] at h
  obtain ⟨x, hx, e⟩ := List.any_eq_true.1 h
  exact ⟨x, hx, by simpa [tE, Lit.sameKey] using e⟩
theorem tD_has_mem {l : List (Nat × Value)} {x : Nat × Value} (h : x ∈ l) : Maps.has (tD l) (.int .u32 (x.1 : Int)) = true := by
  simp only [tD, Maps.has, List.any_map]
  exact List.any_eq_true.2 ⟨x, h, by simp [tE, Lit.sameKey]⟩
theorem tD_at : ∀ {l : List (Nat × Value)} (_ : Rising l) {x : Nat × Value} (_ : x ∈ l) (z : DataW Value), (tD l).atKey (.int .u32 (x.1 : Int)) z = .held x.2
  | [], _, _, h, _ => by simp at h
  | y :: r, hr, x, h, z => by
    obtain ⟨h1, h2⟩ := List.pairwise_cons.1 hr
    simp only [tD, DataW.atKey, List.map_cons, List.find?_cons]
    rcases List.mem_cons.1 h with rfl | h'
    · simp [tE, Lit.sameKey]
    · have hne := h1 x h'
      have e : (tE y).1.sameKey (.int .u32 (x.1 : Int)) = false := by simp [tE, Lit.sameKey]; omega
      rw [e]
      have := tD_at h2 h' z
      simpa only [tD, DataW.atKey] using this
theorem wf_u32 {k : Nat} (h : k < 4294967296) : (Lit.int .u32 (k : Int)).wf = true := by
  simp [Lit.wf, IntKind.min, IntKind.max, IntKind.bits, IntKind.signed]; omega

/-- a map of tags of the call's own: at most n entries, by rising numbers -/
def MO (w : World) (v : Value) (n : Nat) (l : List (Nat × Value)) : Prop :=
  Rising l ∧ (∀ x ∈ l, x.1 < 4294967296) ∧ ((v = .map none ∧ l = []) ∨ ∃ r, v = .map (some r) ∧ w.ownsMap Try.prog 59 tR r n (tD l))
/-- its block -/
def mblk : Value → List Nat
  | .map (some r) => [r]
  | _ => []
theorem MO.nil (w : World) (n : Nat) : MO w (.map none) n [] := ⟨rising_nil, by simp, .inl ⟨rfl, rfl⟩⟩
theorem MO.lt {w : World} {v : Value} {n : Nat} {l : List (Nat × Value)} (h : MO w v n l) : ∀ k ∈ mblk v, k < w.heap.size := by
  obtain ⟨_, _, ⟨rfl, _⟩ | ⟨r, rfl, h⟩⟩ := h
  · simp [mblk]
  · simpa [mblk] using h.lt
theorem MO.kept {w w' : World} {v : Value} {n : Nat} {l : List (Nat × Value)} (h : MO w v n l) (hs : ∀ k ∈ mblk v, w'.heap[k]? = w.heap[k]?) : MO w' v n l := by
  obtain ⟨h1, h2, ⟨rfl, h3⟩ | ⟨r, rfl, es, clock, hb, h4⟩⟩ := h
  · exact ⟨h1, h2, .inl ⟨rfl, h3⟩⟩
  · exact ⟨h1, h2, .inr ⟨r, rfl, es, clock, (hs r (by simp [mblk])).trans hb, h4⟩⟩
theorem MO.shape {w : World} {v : Value} {n : Nat} {l : List (Nat × Value)} (h : MO w v n l) : ∃ r, v = .map r := by
  obtain ⟨_, _, ⟨rfl, _⟩ | ⟨r, rfl, _⟩⟩ := h
  · exact ⟨_, rfl⟩
  · exact ⟨_, rfl⟩
/-- a map of tags that reads: its octets, its block -/
def MP (w : World) (G : Nat → Prop) (v : Value) (l : List Tg) : Prop :=
  ∃ (n : Nat) (m : List (Nat × (Value × Bs))), n ≤ 8589934592 ∧ MO w v n (m.map fun x => (x.1, x.2.1)) ∧ (∀ k ∈ mblk v, G k) ∧ l = m.map (fun x => (x.1, x.2.2)) ∧ ∀ x ∈ m, RB w G x.2.1 x.2.2
theorem MP.nil (w : World) (G : Nat → Prop) : MP w G (.map none) [] := ⟨0, [], by omega, MO.nil _ _, by simp [mblk], rfl, by simp⟩
theorem MP.keepF {w w' : World} {F G : Nat → Prop} {v : Value} {l : List Tg} (h : MP w F v l) (hs : SameOn F w w') (hg : ∀ k, F k → G k) : MP w' G v l := by
  obtain ⟨n, m, h1, h2, h3, h4, h5⟩ := h
  exact ⟨n, m, h1, h2.kept fun k hk => hs k (h3 k hk), fun k hk => hg k (h3 k hk), h4, fun x hx => (h5 x hx).keepF hs hg⟩
theorem MP.shape {w : World} {G : Nat → Prop} {v : Value} {l : List Tg} (h : MP w G v l) : ∃ r, v = .map r := by
  obtain ⟨n, m, h1, h2, _⟩ := h
  exact h2.shape
end Go.Proofs.Ytidebamgmbdnaaa
