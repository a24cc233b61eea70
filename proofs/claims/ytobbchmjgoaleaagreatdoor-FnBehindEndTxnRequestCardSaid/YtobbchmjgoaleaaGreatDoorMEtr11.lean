/-
  kbin.AppendInt16.
-/
import Derived.Test.YtobbchmjgoaleaaGreatDoorMEtr3
import Derived.Test.YtobbchmjgoaleaaGreatDoorMEtr5
import Derived.Test.YtobbchmjgoaleaaGreatDoorMEtr1
import Derived.Lib.AppendStr
import Derived.Maps.AppendAt
namespace Go.Proofs.YtobbchmjgoaleaaGreatDoor
open Go.ChangeShapes Go.WideShapes Go.ChangeAt Go.RowKit

theorem below_grown {B : Nat} {w w1 w2 : World} {v : Value} {l : Bs} (hb : Below B w w1) (hB : B ≤ w.heap.size) (ho : OB w1 B v l) (hg : w1.grownBy w2 v.ownBlock) : Below B w w2 :=
  ⟨hg.os.trans hb.os, hg.tape.trans hb.tape, hg.output.trans hb.output, Nat.le_trans hb.size hg.size, fun k hk => (hg.block k (by have := hb.size; omega) (fun e => by have := (ho.lt k e.symm).1; omega)).trans (hb.block k hk)⟩
set_option maxHeartbeats 400000 in
set_option maxRecDepth 100000 in
theorem appu16_any {B : Nat} {v : Value} {acc : Bs} {w : World} {n : Int} (ho : OB w B v acc) (hB : B ≤ w.heap.size) (hn : 0 ≤ n ∧ n ≤ 65535) (hl : acc.length ≤ 35184372088832) :
    Calls Tryz.prog 190 #[v, .int .u16 n] w fun e w' => ∃ v', e = .returned v' ∧ OB w' B v' (acc ++ fixedP n 2) ∧ Below B w w' := by
  obtain ⟨ao, cap, rfl⟩ := ho.len
  obtain ⟨hn1, hn2⟩ := hn
  go_enter Tryz.func190, Tryz.ntmps190
  have hc : (#[.int .u8 (n / 256), .int .u8 (n % 256)] : Array Value).toList = [oct n 1, oct n 0].map bv := by
    have e1 : n / 2 ^ (8 * 1) % 256 = n / 256 := by omega
    have e0 : n / 2 ^ (8 * 0) % 256 = n % 256 := by omega
    simp only [List.map_cons, List.map_nil, oct_cell, e1, e0]
  have HC : Hid _ := hc
  clear hc
  go_wp2_with (at_builtin; go_loud (refine app_new rfl (.tmp 5) (.tmp 11) rfl B _ acc rfl ho _ [oct n 1, oct n 0] 2 rfl HC.out rfl (by simp; omega) hB ?_; intro v' w' hown hgr))
  go_ret
  exact ⟨_, rfl, hown, below_grown (Below.refl _ _) hB ho hgr⟩
theorem oct_mod (n : Int) : fixedP (n % 65536) 2 = fixedP n 2 := by
  have h1 : n % 65536 / 2 ^ (8 * 1) % 256 = n / 2 ^ (8 * 1) % 256 := by omega
  have h0 : n % 65536 / 2 ^ (8 * 0) % 256 = n / 2 ^ (8 * 0) % 256 := by omega
  simp only [fixedP, oct, h1, h0]
set_option maxHeartbeats 400000 in
set_option maxRecDepth 100000 in
theorem appi16_any {B : Nat} {v : Value} {acc : Bs} {w : World} {n : Int} (ho : OB w B v acc) (hB : B ≤ w.heap.size) (hl : acc.length ≤ 35184372088832) :
    Calls Tryz.prog 135 #[v, .int .i16 n] w fun e w' => ∃ v', e = .returned v' ∧ OB w' B v' (acc ++ fixedP n 2) ∧ Below B w w' := by
  have hw : IntKind.u16.wrap n = n % 65536 := IntKind.wrap_u16 n
  have AP := appu16_any (n := n % 65536) ho hB (by omega) hl
  rw [oct_mod] at AP
  go_enter Tryz.func135, Tryz.ntmps135
  go_wp2_with (go_at_call 190; go_loud ((try rw [hw]); refine AP.mono ?_; rintro e w1 ⟨v', rfl, h1, h2⟩))
  go_ret
  exact ⟨_, rfl, h1, h2⟩
end Go.Proofs.YtobbchmjgoaleaaGreatDoor
/-
  kbin.AppendString.
-/
namespace Go.Proofs.YtobbchmjgoaleaaGreatDoor
open Go.ChangeShapes Go.WideShapes Go.ChangeAt Go.RowKit

theorem strCells_str (l : Bs) : Lib.strCells ⟨l.toArray⟩ = l.map bv := by
  simp only [Lib.strCells]
  rfl
theorem str_size (l : Bs) : (⟨l.toArray⟩ : ByteArray).size = l.length := by
  simp [ByteArray.size]
section
variable {w : World} {ops : Array Oper} {rest : List Oper} {o : Oper} {a : Act} {Q : Exit → Act → World → Prop}
set_option maxRecDepth 100000 in
/-- append of a text's octets -/
theorem app_text (hgd : o.guard = none) (s x : Operand) (ho : o.op = .call { callee := .builtin .append, args := #[s, x], argTypes := #[22, 9] })
    (B : Nat) (v : Value) (acc : Bs) (hs : a.eval s = v) (hown : OB w B v acc) (l : Bs) (hx : a.eval x = str l)
    (hlen : acc.length + l.length ≤ 70368744177664) (hB : B ≤ w.heap.size)
    (h : ∀ v' w', OB w' B v' (acc ++ l) → w.grownBy w' v.ownBlock → wpList Tryz.prog ops Q rest (a.put o.dst v') w') : wpList Tryz.prog ops Q (o :: rest) a w := by
  obtain ⟨i0, hi, hz0, hz1, hz2⟩ := info_parts info_u8
  refine Lib.wpList_append_own_string w hgd s x _ _ ho B 5 i0 Tryz.underlying22 Tryz.underlying9 hi hz0 hz1 hz2 v acc.length (acc.map bv) hs hown ⟨l.toArray⟩ hx (by rw [str_size]; unfold maxLen; omega) (by rw [str_size]; omega) hB ?_
  intro v' w' h1 h2 _
  rw [str_size, strCells_str] at h1
  exact h v' w' (by unfold OB; rw [List.length_append, List.map_append]; exact h1) h2
end
theorem oct_wrap16 (n : Int) : fixedP (IntKind.i16.wrap n) 2 = fixedP n 2 := by
  have h1 : IntKind.i16.wrap n / 2 ^ (8 * 1) % 256 = n / 2 ^ (8 * 1) % 256 := by rw [wrap_i16']; split <;> omega
  have h0 : IntKind.i16.wrap n / 2 ^ (8 * 0) % 256 = n / 2 ^ (8 * 0) % 256 := by rw [wrap_i16']; split <;> omega
  simp only [fixedP, oct, h1, h0]
set_option maxHeartbeats 400000 in
set_option maxRecDepth 100000 in
theorem appstr_any {B : Nat} {v : Value} {acc s : Bs} {w : World} (ho : OB w B v acc) (hB : B ≤ w.heap.size) (hl : acc.length ≤ 17592186044416) (hs : s.length ≤ 17592186044416) :
    Calls Tryz.prog 144 #[v, str s] w fun e w' => ∃ v', e = .returned v' ∧ OB w' B v' (acc ++ (fixedP s.length 2 ++ s)) ∧ Below B w w' := by
  have AP := appi16_any (n := IntKind.i16.wrap s.length) ho hB (by omega)
  rw [oct_wrap16] at AP
  have hsz := str_size s
  go_enter Tryz.func144, Tryz.ntmps144
  unfold str
  go_wp2_with (first
    | (go_at_call 135; go_loud (refine AP.mono ?_; rintro e w1 ⟨v1, rfl, h1, b1⟩))
    | (at_builtin; go_loud (refine app_text rfl (.tmp 10) (.tmp 11) rfl B _ (acc ++ fixedP s.length 2) rfl h1 s rfl (by simp [fixedP]; omega) (Nat.le_trans hB b1.size) ?_; intro v2 w2 h2 g2)))
  go_ret
  exact ⟨_, rfl, by rw [← List.append_assoc]; exact h2, below_grown b1 hB h1 g2⟩
end Go.Proofs.YtobbchmjgoaleaaGreatDoor
/-
  kbin.AppendBool, AppendInt8, AppendInt32, AppendInt64, AppendArrayLen: numbers onto octets of the call's own.
-/
namespace Go.Proofs.YtobbchmjgoaleaaGreatDoor
open Go.ChangeShapes Go.WideShapes Go.ChangeAt Go.RowKit

/-- w' is w, with octets that lie at v' -/
def Apd (B : Nat) (w w' : World) (v' : Value) (l : Bs) : Prop := OB w' B v' l ∧ Below B w w'
set_option maxHeartbeats 400000 in
set_option maxRecDepth 100000 in
theorem appbool_any {B : Nat} {v : Value} {acc : Bs} {w : World} {b : Bool} (ho : OB w B v acc) (hB : B ≤ w.heap.size) (hl : acc.length ≤ 35184372088832) :
    Calls Tryz.prog 146 #[v, .bool b] w fun e w' => ∃ v', e = .returned v' ∧ OB w' B v' (acc ++ [if b then 1 else 0]) ∧ Below B w w' := by
  obtain ⟨ao, cap, rfl⟩ := ho.len
  go_enter Tryz.func146, Tryz.ntmps146
  cases b with
  | true =>
    go_wp2_with (at_builtin; go_loud (refine app_new rfl _ _ rfl B _ acc rfl ho _ [1] 1 rfl (by rfl) rfl (by simp; omega) hB ?_; intro v' w' hown hgr))
    go_ret
    exact ⟨_, rfl, hown, below_grown (Below.refl _ _) hB ho hgr⟩
  | false =>
    go_wp2_with (at_builtin; go_loud (refine app_new rfl _ _ rfl B _ acc rfl ho _ [0] 1 rfl (by rfl) rfl (by simp; omega) hB ?_; intro v' w' hown hgr))
    go_ret
    exact ⟨_, rfl, hown, below_grown (Below.refl _ _) hB ho hgr⟩
set_option maxHeartbeats 400000 in
set_option maxRecDepth 100000 in
theorem appi8_any {B : Nat} {v : Value} {acc : Bs} {w : World} {n : Int} (ho : OB w B v acc) (hB : B ≤ w.heap.size) (hl : acc.length ≤ 35184372088832) :
    Calls Tryz.prog 163 #[v, .int .i8 n] w fun e w' => ∃ v', e = .returned v' ∧ OB w' B v' (acc ++ fixedP n 1) ∧ Below B w w' := by
  obtain ⟨ao, cap, rfl⟩ := ho.len
  have hw : IntKind.u8.wrap n = n % 256 := IntKind.wrap_u8 n
  have hc : (#[.int .u8 (n % 256)] : Array Value).toList = [oct n 0].map bv := by
    simp [oct_cell]
  have HC : Hid _ := hc
  clear hc
  go_enter Tryz.func163, Tryz.ntmps163
  go_wp2_with (at_builtin; go_loud (refine app_new rfl _ _ rfl B _ acc rfl ho _ [oct n 0] 1 rfl HC.out rfl (by simp; omega) hB ?_; intro v' w' hown hgr))
  go_ret
  exact ⟨_, rfl, hown, below_grown (Below.refl _ _) hB ho hgr⟩
set_option maxHeartbeats 400000 in
set_option maxRecDepth 100000 in
theorem appu32_any {B : Nat} {v : Value} {acc : Bs} {w : World} {n : Int} (ho : OB w B v acc) (hB : B ≤ w.heap.size) (hn : 0 ≤ n ∧ n ≤ 4294967295) (hl : acc.length ≤ 35184372088832) :
    Calls Tryz.prog 189 #[v, .int .u32 n] w fun e w' => ∃ v', e = .returned v' ∧ OB w' B v' (acc ++ fixedP n 4) ∧ Below B w w' := by
  obtain ⟨ao, cap, rfl⟩ := ho.len
  obtain ⟨hn1, hn2⟩ := hn
  go_enter Tryz.func189, Tryz.ntmps189
  have hc : (#[.int .u8 (n / 16777216), .int .u8 (n / 65536 % 256), .int .u8 (n / 256 % 256), .int .u8 (n % 256)] : Array Value).toList = [oct n 3, oct n 2, oct n 1, oct n 0].map bv := by
    have e3 : n / 2 ^ (8 * 3) % 256 = n / 16777216 := by omega
    have e2 : n / 2 ^ (8 * 2) % 256 = n / 65536 % 256 := by omega
    have e1 : n / 2 ^ (8 * 1) % 256 = n / 256 % 256 := by omega
    have e0 : n / 2 ^ (8 * 0) % 256 = n % 256 := by omega
    simp only [List.map_cons, List.map_nil, oct_cell, e3, e2, e1, e0]
  have HC : Hid _ := hc
  clear hc
  go_wp2_with (at_builtin; go_loud (refine app_new rfl _ _ rfl B _ acc rfl ho _ [oct n 3, oct n 2, oct n 1, oct n 0] 4 rfl HC.out rfl (by simp; omega) hB ?_; intro v' w' hown hgr))
  go_ret
  exact ⟨_, rfl, hown, below_grown (Below.refl _ _) hB ho hgr⟩
theorem oct_mod4 (n : Int) : fixedP (n % 4294967296) 4 = fixedP n 4 := by
  have h3 : n % 4294967296 / 2 ^ (8 * 3) % 256 = n / 2 ^ (8 * 3) % 256 := by omega
  have h2 : n % 4294967296 / 2 ^ (8 * 2) % 256 = n / 2 ^ (8 * 2) % 256 := by omega
  have h1 : n % 4294967296 / 2 ^ (8 * 1) % 256 = n / 2 ^ (8 * 1) % 256 := by omega
  have h0 : n % 4294967296 / 2 ^ (8 * 0) % 256 = n / 2 ^ (8 * 0) % 256 := by omega
  simp only [fixedP, oct, h3, h2, h1, h0]
set_option maxHeartbeats 400000 in
set_option maxRecDepth 100000 in
theorem appi32_any {B : Nat} {v : Value} {acc : Bs} {w : World} {n : Int} (ho : OB w B v acc) (hB : B ≤ w.heap.size) (hl : acc.length ≤ 35184372088832) :
    Calls Tryz.prog 134 #[v, .int .i32 n] w fun e w' => ∃ v', e = .returned v' ∧ OB w' B v' (acc ++ fixedP n 4) ∧ Below B w w' := by
  have hw : IntKind.u32.wrap n = n % 4294967296 := IntKind.wrap_u32 n
  have AP := appu32_any (n := n % 4294967296) ho hB (by omega) hl
  rw [oct_mod4] at AP
  go_enter Tryz.func134, Tryz.ntmps134
  go_wp2_with (go_at_call 189; go_loud ((try rw [hw]); refine AP.mono ?_; rintro e w1 ⟨v', rfl, h1, h2⟩))
  go_ret
  exact ⟨_, rfl, h1, h2⟩
set_option maxHeartbeats 800000 in
set_option maxRecDepth 100000 in
theorem appu64_any {B : Nat} {v : Value} {acc : Bs} {w : World} {n : Int} (ho : OB w B v acc) (hB : B ≤ w.heap.size) (hn : 0 ≤ n ∧ n ≤ 18446744073709551615) (hl : acc.length ≤ 35184372088832) :
    Calls Tryz.prog 200 #[v, .int .u64 n] w fun e w' => ∃ v', e = .returned v' ∧ OB w' B v' (acc ++ fixedP n 8) ∧ Below B w w' := by
  obtain ⟨ao, cap, rfl⟩ := ho.len
  obtain ⟨hn1, hn2⟩ := hn
  go_enter Tryz.func200, Tryz.ntmps200
  have hc : (#[.int .u8 (n / 72057594037927936), .int .u8 (n / 281474976710656 % 256), .int .u8 (n / 1099511627776 % 256), .int .u8 (n / 4294967296 % 256), .int .u8 (n / 16777216 % 256), .int .u8 (n / 65536 % 256), .int .u8 (n / 256 % 256), .int .u8 (n % 256)] : Array Value).toList = [oct n 7, oct n 6, oct n 5, oct n 4, oct n 3, oct n 2, oct n 1, oct n 0].map bv := by
    have e7 : n / 2 ^ (8 * 7) % 256 = n / 72057594037927936 := by omega
    have e6 : n / 2 ^ (8 * 6) % 256 = n / 281474976710656 % 256 := by omega
    have e5 : n / 2 ^ (8 * 5) % 256 = n / 1099511627776 % 256 := by omega
    have e4 : n / 2 ^ (8 * 4) % 256 = n / 4294967296 % 256 := by omega
    have e3 : n / 2 ^ (8 * 3) % 256 = n / 16777216 % 256 := by omega
    have e2 : n / 2 ^ (8 * 2) % 256 = n / 65536 % 256 := by omega
    have e1 : n / 2 ^ (8 * 1) % 256 = n / 256 % 256 := by omega
    have e0 : n / 2 ^ (8 * 0) % 256 = n % 256 := by omega
    simp only [List.map_cons, List.map_nil, oct_cell, e7, e6, e5, e4, e3, e2, e1, e0]
  have HC : Hid _ := hc
  clear hc
  go_wp2_with (at_builtin; go_loud (refine app_new rfl _ _ rfl B _ acc rfl ho _ [oct n 7, oct n 6, oct n 5, oct n 4, oct n 3, oct n 2, oct n 1, oct n 0] 8 rfl HC.out rfl (by simp; omega) hB ?_; intro v' w' hown hgr))
  go_ret
  exact ⟨_, rfl, hown, below_grown (Below.refl _ _) hB ho hgr⟩
theorem oct_mod8 (n : Int) : fixedP (n % 18446744073709551616) 8 = fixedP n 8 := by
  have h7 : n % 18446744073709551616 / 2 ^ (8 * 7) % 256 = n / 2 ^ (8 * 7) % 256 := by omega
  have h6 : n % 18446744073709551616 / 2 ^ (8 * 6) % 256 = n / 2 ^ (8 * 6) % 256 := by omega
  have h5 : n % 18446744073709551616 / 2 ^ (8 * 5) % 256 = n / 2 ^ (8 * 5) % 256 := by omega
  have h4 : n % 18446744073709551616 / 2 ^ (8 * 4) % 256 = n / 2 ^ (8 * 4) % 256 := by omega
  have h3 : n % 18446744073709551616 / 2 ^ (8 * 3) % 256 = n / 2 ^ (8 * 3) % 256 := by omega
  have h2 : n % 18446744073709551616 / 2 ^ (8 * 2) % 256 = n / 2 ^ (8 * 2) % 256 := by omega
  have h1 : n % 18446744073709551616 / 2 ^ (8 * 1) % 256 = n / 2 ^ (8 * 1) % 256 := by omega
  have h0 : n % 18446744073709551616 / 2 ^ (8 * 0) % 256 = n / 2 ^ (8 * 0) % 256 := by omega
  simp only [fixedP, oct, h7, h6, h5, h4, h3, h2, h1, h0]
set_option maxHeartbeats 400000 in
set_option maxRecDepth 100000 in
theorem appi64_any {B : Nat} {v : Value} {acc : Bs} {w : World} {n : Int} (ho : OB w B v acc) (hB : B ≤ w.heap.size) (hl : acc.length ≤ 35184372088832) :
    Calls Tryz.prog 145 #[v, .int .i64 n] w fun e w' => ∃ v', e = .returned v' ∧ OB w' B v' (acc ++ fixedP n 8) ∧ Below B w w' := by
  have hw : IntKind.u64.wrap n = n % 18446744073709551616 := IntKind.wrap_u64 n
  have AP := appu64_any (n := n % 18446744073709551616) ho hB (by omega) hl
  rw [oct_mod8] at AP
  go_enter Tryz.func145, Tryz.ntmps145
  go_wp2_with (go_at_call 200; go_loud ((try rw [hw]); refine AP.mono ?_; rintro e w1 ⟨v', rfl, h1, h2⟩))
  go_ret
  exact ⟨_, rfl, h1, h2⟩
end Go.Proofs.YtobbchmjgoaleaaGreatDoor
/-
  append of octets, and where the new slice lies.
-/
namespace Go.Proofs.YtobbchmjgoaleaaGreatDoor
open Go.ChangeShapes Go.WideShapes Go.ChangeAt Go.RowKit

/-- w' is w, but for v's own block and new ones; v' lies in one of these -/
structure Moved (w w' : World) (v v' : Value) : Prop where
  grown : w.grownBy w' v.ownBlock
  here : ∀ k, v'.ownBlock = some k → v.ownBlock = some k ∨ w.heap.size ≤ k
theorem Moved.trans {a b c : World} {v v1 v2 : Value} (h : Moved a b v v1) (k : Moved b c v1 v2) : Moved a c v v2 := by
  refine ⟨⟨k.grown.os.trans h.grown.os, k.grown.tape.trans h.grown.tape, k.grown.output.trans h.grown.output, Nat.le_trans h.grown.size k.grown.size, fun i hi hne => ?_⟩, fun i e => ?_⟩
  · refine (k.grown.block i (Nat.lt_of_lt_of_le hi h.grown.size) fun e => ?_).trans (h.grown.block i hi hne)
    rcases h.here i e.symm with q | q
    · exact hne q.symm
    · omega
  · rcases k.here i e with q | q
    · exact h.here i q
    · exact .inr (Nat.le_trans h.grown.size q)
theorem Moved.refl (w : World) (v : Value) : Moved w w v v := ⟨⟨rfl, rfl, rfl, Nat.le_refl _, fun _ _ _ => rfl⟩, fun _ e => .inl e⟩
theorem Moved.below {B : Nat} {w w' : World} {v v' : Value} {l : Bs} (h : Moved w w' v v') (hB : B ≤ w.heap.size) (ho : OB w B v l) : Below B w w' :=
  ⟨h.grown.os, h.grown.tape, h.grown.output, h.grown.size, fun k hk => h.grown.block k (by omega) (fun e => by have := (ho.lt k e.symm).1; omega)⟩
section
variable {w : World} {ops : Array Oper} {rest : List Oper} {o : Oper} {a : Act} {Q : Exit → Act → World → Prop}
set_option maxRecDepth 100000 in
theorem app_at (hgd : o.guard = none) (s x : Operand) (ho : o.op = .call { callee := .builtin .append, args := #[s, x], argTypes := #[22, 22] })
    (B : Nat) (v : Value) (acc : Bs) (hs : a.eval s = v) (hown : OB w B v acc) (xv : Value) (l : Bs) (G : Nat → Prop) (hx : a.eval x = xv) (hl : RB w G xv l)
    (hlen : acc.length + l.length ≤ 70368744177664) (hB : B ≤ w.heap.size)
    (h : ∀ v' w', OB w' B v' (acc ++ l) → Moved w w' v v' → wpList Tryz.prog ops Q rest (a.put o.dst v') w') : wpList Tryz.prog ops Q (o :: rest) a w := by
  obtain ⟨i0, hi, hz0, hz1, hz2⟩ := info_parts info_u8
  obtain ⟨ao, cap, rfl, h1, h2, h3⟩ := hl
  cases ao with
  | none =>
    obtain ⟨g1, g2, g3⟩ := h2 rfl
    have hnil : l = [] := List.eq_nil_of_length_eq_zero g1
    subst hnil
    subst g2
    have hrun := run_append_owned_none (P := Tryz.prog) (w := w) B 22 o.type 5 i0 1 Tryz.underlying22 hi v _ _ hown
    have hx' : a.eval x = .slice none 0 0 := hx
    refine wpList_plain hgd fun K hK => ?_
    unfold Oper.wp
    simp [execOp, ho, resolve, invoke, builtin, hs, hx', hrun, Result.andThen]
    exact hK _ _ (h v w (by simpa using hown) (Moved.refl _ _))
  | some ad =>
    obtain ⟨g1, g2⟩ := h3 ad rfl
    refine wpList_append_own_at w hgd s x _ ho B 5 i0 (.int .u8 0) 1 1 Tryz.underlying22 hi hz0 hz1 hz2 rfl (by decide) v acc.length (acc.map bv) hs hown ad l.length cap (l.map bv) hx (by simp) ?_ ?_ (by unfold maxLen; omega) (by omega) hB ?_
    · intro j u hj
      have hlt : j < (l.map bv).length := (List.getElem?_eq_some_iff.1 hj).1
      rw [List.getElem?_eq_getElem hlt] at hj
      have := (g2 j hlt).2
      rw [Option.some.inj hj] at this
      rw [← this]
      congr 1
      obtain ⟨b, o, sp⟩ := ad
      replace g1 := g1 (by omega)
      simp only at g1
      subst g1
      unfold Addr.add
      split
      · subst j; rfl
      · rfl
    · intro u hu
      obtain ⟨x, _, rfl⟩ := List.mem_map.1 hu
      rfl
    · intro v' w' hown' hg _ hat
      refine h v' w' (by unfold OB; rw [List.length_append, List.map_append]; exact hown') ⟨hg, fun k e => ?_⟩
      rcases hat with q | q
      · exact .inl (q ▸ e)
      · right
        rw [q] at e
        cases e
        exact Nat.le_refl _
theorem app_new_at (hgd : o.guard = none) (s x : Operand) (ho : o.op = .call { callee := .builtin .append, args := #[s, x], argTypes := #[22, 22] })
    (B : Nat) (v : Value) (acc : Bs) (hs : a.eval s = v) (hown : OB w B v acc) (cs : Array Value) (l : Bs) (n : Nat) (hx : a.eval x = .slice (some ⟨w.heap.size, 0, none⟩) n n) (hcs : cs.toList = l.map bv) (hn : n = l.length)
    (hlen : acc.length + l.length ≤ 70368744177664) (hB : B ≤ w.heap.size)
    (h : ∀ v' w', OB w' B v' (acc ++ l) → Moved w w' v v' → wpList Tryz.prog ops Q rest (a.put o.dst v') w') : wpList Tryz.prog ops Q (o :: rest) a (w.alloc (.cells cs 5)) := by
  subst hn
  refine app_at hgd s x ho B v acc hs (hown.alloc _) _ l (fun _ => True) hx ?_ hlen (by simp; omega) ?_
  · refine ⟨_, _, rfl, Nat.le_refl _, (fun h => by cases h), fun ad had => ?_⟩
    cases had
    refine ⟨fun _ => rfl, fun i hi => ⟨trivial, ?_⟩⟩
    have e : (l.map bv)[i]? = some (l.map bv)[i] := List.getElem?_eq_getElem hi
    rw [← e, ← hcs]
    have e2 : (w.alloc (.cells cs 5)).heap[w.heap.size]? = some (.cells cs 5) := heap_alloc_new w _
    simp only [World.cell?, e2]
    simp
  · intro v' w' h1 h2
    refine h v' w' h1 ⟨⟨h2.grown.os, h2.grown.tape, h2.grown.output, Nat.le_trans (by simp) h2.grown.size, fun k hk hne => ?_⟩, fun k e => ?_⟩
    · rw [h2.grown.block k (by simp; omega) hne, Below.heap_alloc _ _ _ hk]
    · rcases h2.here k e with q | q
      · exact .inl q
      · exact .inr (by simp at q; omega)
end
end Go.Proofs.YtobbchmjgoaleaaGreatDoor
