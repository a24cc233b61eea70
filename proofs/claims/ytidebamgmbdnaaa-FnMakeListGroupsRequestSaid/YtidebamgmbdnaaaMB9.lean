/-
  kbin.AppendUvarint: a number in groups of seven bits onto octets of the call's own.
-/
import Derived.Test.YtidebamgmbdnaaaMB6
import Derived.Test.YtidebamgmbdnaaaMB8
import Derived.Test.YtidebamgmbdnaaaMB1
import Derived.Test.YtidebamgmbdnaaaMB7
import Derived.Shelf.Small.Bits
import Derived.Lib.Hide
namespace Go.Proofs.Ytidebamgmbdnaaa
open Go.ChangeShapes Go.WideShapes Go.ChangeAt Go.RowKit

/-- where the kit's contract of bits.Len32 finds its functions and types here -/
def ren32 : Go.Shelf.Ren := ⟨fun n => if n = 128 then 109 else n, fun n => if n = 3 then 3 else if n = 4 then 4 else if n = 5 then 5 else if n = 9 then 9 else if n = 46 then 139 else 59, fun n => n⟩
theorem lays32 : Go.Proofs.Lays.n128 Try.prog ren32 := {
  mixed := by kernel_rfl
  f128 := Try.func109.trans (congrArg some (by kernel_rfl))
  t3 := Try.underlying3
  a3 := Try.isAgg3
  z3 := Try.sizeOf3
  v3 := Try.zeroValue3
  t4 := Try.underlying4
  a4 := Try.isAgg4
  z4 := Try.sizeOf4
  v4 := Try.zeroValue4
  t5 := Try.underlying5
  a5 := Try.isAgg5
  z5 := Try.sizeOf5
  v5 := Try.zeroValue5
  t9 := Try.underlying9
  a9 := Try.isAgg9
  z9 := Try.sizeOf9
  v9 := Try.zeroValue9
  t46 := Try.underlying139
  a46 := Try.isAgg139
  z46 := Try.sizeOf139
  v46 := Try.zeroValue139
  t51 := Try.underlying59
  a51 := Try.isAgg59
  z51 := Try.sizeOf59
  v51 := Try.zeroValue59 }
theorem len32_any (x : Int) (w : World) (h0 : 0 ≤ x) (h1 : x ≤ 4294967295) :
    Calls Try.prog 109 #[.int .u32 x] w fun e w' => e = .returned (.int .i64 (Lib.bitLen x.toNat)) ∧ w = w' :=
  (Any.bits_Len32 lays32 x w h0 h1).mono fun _ _ h => ⟨h.1, h.2.symm⟩
/-- how many groups, by how many bits -/
def glen (L : Nat) : Nat := if L ≤ 7 then 1 else if L ≤ 14 then 2 else if L ≤ 21 then 3 else if L ≤ 28 then 4 else 5
theorem bitLen_up (k x : Nat) (h : 2 ^ k ≤ x) (hx : x < 18446744073709551616) : k < Lib.bitLen x := by
  have e := Lib.bitLen_shift k x h hx
  have hq : x / 2 ^ k ≠ 0 := by
    have : 1 ≤ x / 2 ^ k := (Nat.le_div_iff_mul_le (Nat.pow_pos (by decide))).2 (by omega)
    omega
  have hq2 : x / 2 ^ k < 2 ^ 64 := Nat.lt_of_le_of_lt (Nat.div_le_self _ _) hx
  have e2 := Lib.bitLen_half (x / 2 ^ k) hq hq2
  omega
theorem glen_eq (n : Nat) (hn : n < 4294967296) : glen (Lib.bitLen n) = (uvarP n).length := by
  have hx : n < 18446744073709551616 := by omega
  unfold glen
  by_cases h1 : n < 128
  · rw [if_pos (Lib.bitLen_le n 7 (by decide) h1), uvarP_small (by omega)]
    rfl
  have u1 := bitLen_up 7 n (by omega) hx
  rw [if_neg (by omega), uvarP_big (by omega)]
  by_cases h2 : n < 16384
  · rw [if_pos (Lib.bitLen_le n 14 (by decide) h2), uvarP_small (n := n / 128) (by omega)]
    rfl
  have u2 := bitLen_up 14 n (by omega) hx
  rw [if_neg (by omega), uvarP_big (n := n / 128) (by omega)]
  by_cases h3 : n < 2097152
  · rw [if_pos (Lib.bitLen_le n 21 (by decide) h3), uvarP_small (n := n / 128 / 128) (by omega)]
    rfl
  have u3 := bitLen_up 21 n (by omega) hx
  rw [if_neg (by omega), uvarP_big (n := n / 128 / 128) (by omega)]
  by_cases h4 : n < 268435456
  · rw [if_pos (Lib.bitLen_le n 28 (by decide) h4), uvarP_small (n := n / 128 / 128 / 128) (by omega)]
    rfl
  have u4 := bitLen_up 28 n (by omega) hx
  rw [if_neg (by omega), uvarP_big (n := n / 128 / 128 / 128) (by omega), uvarP_small (n := n / 128 / 128 / 128 / 128) (by omega)]
  rfl
set_option maxHeartbeats 4000000 in
set_option maxRecDepth 100000 in
theorem uvlen_any (n : Nat) (hn : n < 4294967296) (w : World) :
    Calls Try.prog 100 #[.int .u32 (n : Int)] w fun e w' => e = .returned (.int .i64 ((uvarP n).length : Int)) ∧ w = w' := by
  have L32 := fun w => len32_any (n : Int) w (by omega) (by omega)
  have hle := Lib.bitLen_le n 32 (by decide) hn
  rw [← glen_eq n hn]
  simp only [Int.toNat_natCast] at L32
  generalize Lib.bitLen n = L at *
  rcases (show L = 0 ∨ L = 1 ∨ L = 2 ∨ L = 3 ∨ L = 4 ∨ L = 5 ∨ L = 6 ∨ L = 7 ∨ L = 8 ∨ L = 9 ∨ L = 10 ∨ L = 11 ∨ L = 12 ∨ L = 13 ∨ L = 14 ∨ L = 15 ∨ L = 16 ∨ L = 17 ∨ L = 18 ∨ L = 19 ∨ L = 20 ∨ L = 21 ∨ L = 22 ∨ L = 23 ∨ L = 24 ∨ L = 25 ∨ L = 26 ∨ L = 27 ∨ L = 28 ∨ L = 29 ∨ L = 30 ∨ L = 31 ∨ L = 32 by omega) with rfl | rfl | rfl | rfl | rfl | rfl | rfl | rfl | rfl | rfl | rfl | rfl | rfl | rfl | rfl | rfl | rfl | rfl | rfl | rfl | rfl | rfl | rfl | rfl | rfl | rfl | rfl | rfl | rfl | rfl | rfl | rfl | rfl
  all_goals (
    go_enter Try.func100, Try.ntmps100
    go_wp2_with (go_at_call 109; refine (L32 _).mono ?_; rintro e w1 ⟨rfl, rfl⟩)
    go_ret
    refine ⟨congrArg (fun z => Ending.returned (Value.int IntKind.i64 z)) ?_, rfl⟩
    decide +kernel)
theorem and127 (x : Int) (h0 : 0 ≤ x) (h1 : x < 4294967296) : bits .and .u32 x 127 = x % 128 := bits_mask .u32 32 (by decide) wraps_u32 7 (by decide) _ h0 (by simpa using h1)
theorem or128 (x : Int) (h0 : 0 ≤ x) (h1 : x < 128) : bits .or .u32 x 128 = x + 128 := by
  have h := or_up .u32 32 (by decide) wraps_u32 7 128 x (by decide) (by decide) (by decide) h0 (by simpa using h1) (by decide)
  exact h
set_option maxHeartbeats 800000 in
set_option maxRecDepth 100000 in
theorem appuv_1 {B : Nat} {v : Value} {acc : Bs} {w : World} {n : Nat} (ho : OB w B v acc) (hB : B ≤ w.heap.size) (hn0 : n < 128) (hl : acc.length ≤ 41000000000000) :
    Calls Try.prog 68 #[v, .int .u32 (n : Int)] w fun e w' => ∃ v', e = .returned v' ∧ OB w' B v' (acc ++ uvarP n) ∧ Moved w w' v v' := by
  have hu : uvarP n = [UInt8.ofNat (n)] := by rw [uvarP_small (n := n) (by omega)]
  rw [hu]
  have UL := fun w => uvlen_any n (by omega) w
  rw [hu] at UL
  clear hu
  have hc : (#[.int .u8 ((n : Int))] : Array Value).toList = ([UInt8.ofNat (n)] : Bs).map bv := by
    simp only [List.map_cons, List.map_nil, bv, UInt8.toNat_ofNat', List.cons.injEq, Value.int.injEq, true_and, and_true]
    omega
  have HC : Hid _ := Lib.hid hc
  clear hc
  go_enter Try.func68, Try.ntmps68
  go_wp2_with (first
    | (go_at_call 100; refine (UL _).mono ?_; rintro e w1 ⟨rfl, rfl⟩)
    | (at_builtin; go_loud (refine app_new_at rfl _ _ rfl B _ acc rfl ho _ [UInt8.ofNat (n)] 1 rfl HC.out rfl (by simp; omega) hB ?_; intro v' w2 hown hgr)))
  go_ret
  exact ⟨_, rfl, hown, hgr⟩
set_option maxHeartbeats 800000 in
set_option maxRecDepth 100000 in
theorem appuv_2 {B : Nat} {v : Value} {acc : Bs} {w : World} {n : Nat} (ho : OB w B v acc) (hB : B ≤ w.heap.size) (hn0 : ¬ n < 128) (hn1 : n < 16384) (hl : acc.length ≤ 41000000000000) :
    Calls Try.prog 68 #[v, .int .u32 (n : Int)] w fun e w' => ∃ v', e = .returned v' ∧ OB w' B v' (acc ++ uvarP n) ∧ Moved w w' v v' := by
  have hu : uvarP n = [UInt8.ofNat (n % 128 + 128), UInt8.ofNat (n / 128)] := by rw [uvarP_big (n := n) (by omega), uvarP_small (n := n / 128) (by omega)]
  rw [hu]
  have UL := fun w => uvlen_any n (by omega) w
  rw [hu] at UL
  clear hu
  have a0 := and127 (n : Int) (by omega) (by omega)
  have o0 := or128 ((n : Int) % 128) (by omega) (by omega)
  have hc : (#[.int .u8 ((n : Int) % 128 + 128), .int .u8 ((n : Int) / 128)] : Array Value).toList = ([UInt8.ofNat (n % 128 + 128), UInt8.ofNat (n / 128)] : Bs).map bv := by
    simp only [List.map_cons, List.map_nil, bv, UInt8.toNat_ofNat', List.cons.injEq, Value.int.injEq, true_and, and_true]
    omega
  have HC : Hid _ := Lib.hid hc
  clear hc
  go_enter Try.func68, Try.ntmps68
  go_wp2_with (first
    | (go_at_call 100; refine (UL _).mono ?_; rintro e w1 ⟨rfl, rfl⟩)
    | (at_builtin; go_loud (refine app_new_at rfl _ _ rfl B _ acc rfl ho _ [UInt8.ofNat (n % 128 + 128), UInt8.ofNat (n / 128)] 2 rfl HC.out rfl (by simp; omega) hB ?_; intro v' w2 hown hgr)))
  go_ret
  exact ⟨_, rfl, hown, hgr⟩
set_option maxHeartbeats 800000 in
set_option maxRecDepth 100000 in
theorem appuv_3 {B : Nat} {v : Value} {acc : Bs} {w : World} {n : Nat} (ho : OB w B v acc) (hB : B ≤ w.heap.size) (hn0 : ¬ n < 16384) (hn1 : n < 2097152) (hl : acc.length ≤ 41000000000000) :
    Calls Try.prog 68 #[v, .int .u32 (n : Int)] w fun e w' => ∃ v', e = .returned v' ∧ OB w' B v' (acc ++ uvarP n) ∧ Moved w w' v v' := by
  have hu : uvarP n = [UInt8.ofNat (n % 128 + 128), UInt8.ofNat (n / 128 % 128 + 128), UInt8.ofNat (n / 16384)] := by rw [uvarP_big (n := n) (by omega), uvarP_big (n := n / 128) (by omega), uvarP_small (n := (n / 128 / 128)) (by omega)]; rw [show n / 128 / 128 = n / 16384 by omega]
  rw [hu]
  have UL := fun w => uvlen_any n (by omega) w
  rw [hu] at UL
  clear hu
  have a0 := and127 (n : Int) (by omega) (by omega)
  have o0 := or128 ((n : Int) % 128) (by omega) (by omega)
  have a1 := and127 ((n : Int) / 128) (by omega) (by omega)
  have o1 := or128 ((n : Int) / 128 % 128) (by omega) (by omega)
  have hc : (#[.int .u8 ((n : Int) % 128 + 128), .int .u8 ((n : Int) / 128 % 128 + 128), .int .u8 ((n : Int) / 16384)] : Array Value).toList = ([UInt8.ofNat (n % 128 + 128), UInt8.ofNat (n / 128 % 128 + 128), UInt8.ofNat (n / 16384)] : Bs).map bv := by
    simp only [List.map_cons, List.map_nil, bv, UInt8.toNat_ofNat', List.cons.injEq, Value.int.injEq, true_and, and_true]
    omega
  have HC : Hid _ := Lib.hid hc
  clear hc
  go_enter Try.func68, Try.ntmps68
  go_wp2_with (first
    | (go_at_call 100; refine (UL _).mono ?_; rintro e w1 ⟨rfl, rfl⟩)
    | (at_builtin; go_loud (refine app_new_at rfl _ _ rfl B _ acc rfl ho _ [UInt8.ofNat (n % 128 + 128), UInt8.ofNat (n / 128 % 128 + 128), UInt8.ofNat (n / 16384)] 3 rfl HC.out rfl (by simp; omega) hB ?_; intro v' w2 hown hgr)))
  go_ret
  exact ⟨_, rfl, hown, hgr⟩
set_option maxHeartbeats 800000 in
set_option maxRecDepth 100000 in
theorem appuv_4 {B : Nat} {v : Value} {acc : Bs} {w : World} {n : Nat} (ho : OB w B v acc) (hB : B ≤ w.heap.size) (hn0 : ¬ n < 2097152) (hn1 : n < 268435456) (hl : acc.length ≤ 41000000000000) :
    Calls Try.prog 68 #[v, .int .u32 (n : Int)] w fun e w' => ∃ v', e = .returned v' ∧ OB w' B v' (acc ++ uvarP n) ∧ Moved w w' v v' := by
  have hu : uvarP n = [UInt8.ofNat (n % 128 + 128), UInt8.ofNat (n / 128 % 128 + 128), UInt8.ofNat (n / 16384 % 128 + 128), UInt8.ofNat (n / 2097152)] := by rw [uvarP_big (n := n) (by omega), uvarP_big (n := n / 128) (by omega), uvarP_big (n := (n / 128 / 128)) (by omega), uvarP_small (n := ((n / 128 / 128) / 128)) (by omega)]; rw [show n / 128 / 128 / 128 = n / 2097152 by omega]; rw [show n / 128 / 128 = n / 16384 by omega]
  rw [hu]
  have UL := fun w => uvlen_any n (by omega) w
  rw [hu] at UL
  clear hu
  have a0 := and127 (n : Int) (by omega) (by omega)
  have o0 := or128 ((n : Int) % 128) (by omega) (by omega)
  have a1 := and127 ((n : Int) / 128) (by omega) (by omega)
  have o1 := or128 ((n : Int) / 128 % 128) (by omega) (by omega)
  have a2 := and127 ((n : Int) / 16384) (by omega) (by omega)
  have o2 := or128 ((n : Int) / 16384 % 128) (by omega) (by omega)
  have hc : (#[.int .u8 ((n : Int) % 128 + 128), .int .u8 ((n : Int) / 128 % 128 + 128), .int .u8 ((n : Int) / 16384 % 128 + 128), .int .u8 ((n : Int) / 2097152)] : Array Value).toList = ([UInt8.ofNat (n % 128 + 128), UInt8.ofNat (n / 128 % 128 + 128), UInt8.ofNat (n / 16384 % 128 + 128), UInt8.ofNat (n / 2097152)] : Bs).map bv := by
    simp only [List.map_cons, List.map_nil, bv, UInt8.toNat_ofNat', List.cons.injEq, Value.int.injEq, true_and, and_true]
    omega
  have HC : Hid _ := Lib.hid hc
  clear hc
  go_enter Try.func68, Try.ntmps68
  go_wp2_with (first
    | (go_at_call 100; refine (UL _).mono ?_; rintro e w1 ⟨rfl, rfl⟩)
    | (at_builtin; go_loud (refine app_new_at rfl _ _ rfl B _ acc rfl ho _ [UInt8.ofNat (n % 128 + 128), UInt8.ofNat (n / 128 % 128 + 128), UInt8.ofNat (n / 16384 % 128 + 128), UInt8.ofNat (n / 2097152)] 4 rfl HC.out rfl (by simp; omega) hB ?_; intro v' w2 hown hgr)))
  go_ret
  exact ⟨_, rfl, hown, hgr⟩
set_option maxHeartbeats 800000 in
set_option maxRecDepth 100000 in
theorem appuv_5 {B : Nat} {v : Value} {acc : Bs} {w : World} {n : Nat} (ho : OB w B v acc) (hB : B ≤ w.heap.size) (hn0 : ¬ n < 268435456) (hn1 : n < 4294967296) (hl : acc.length ≤ 41000000000000) :
    Calls Try.prog 68 #[v, .int .u32 (n : Int)] w fun e w' => ∃ v', e = .returned v' ∧ OB w' B v' (acc ++ uvarP n) ∧ Moved w w' v v' := by
  have hu : uvarP n = [UInt8.ofNat (n % 128 + 128), UInt8.ofNat (n / 128 % 128 + 128), UInt8.ofNat (n / 16384 % 128 + 128), UInt8.ofNat (n / 2097152 % 128 + 128), UInt8.ofNat (n / 268435456)] := by rw [uvarP_big (n := n) (by omega), uvarP_big (n := n / 128) (by omega), uvarP_big (n := (n / 128 / 128)) (by omega), uvarP_big (n := ((n / 128 / 128) / 128)) (by omega), uvarP_small (n := (((n / 128 / 128) / 128) / 128)) (by omega)]; rw [show n / 128 / 128 / 128 / 128 = n / 268435456 by omega]; rw [show n / 128 / 128 / 128 = n / 2097152 by omega]; rw [show n / 128 / 128 = n / 16384 by omega]
  rw [hu]
  have UL := fun w => uvlen_any n (by omega) w
  rw [hu] at UL
  clear hu
  have a0 := and127 (n : Int) (by omega) (by omega)
  have o0 := or128 ((n : Int) % 128) (by omega) (by omega)
  have a1 := and127 ((n : Int) / 128) (by omega) (by omega)
  have o1 := or128 ((n : Int) / 128 % 128) (by omega) (by omega)
  have a2 := and127 ((n : Int) / 16384) (by omega) (by omega)
  have o2 := or128 ((n : Int) / 16384 % 128) (by omega) (by omega)
  have a3 := and127 ((n : Int) / 2097152) (by omega) (by omega)
  have o3 := or128 ((n : Int) / 2097152 % 128) (by omega) (by omega)
  have hc : (#[.int .u8 ((n : Int) % 128 + 128), .int .u8 ((n : Int) / 128 % 128 + 128), .int .u8 ((n : Int) / 16384 % 128 + 128), .int .u8 ((n : Int) / 2097152 % 128 + 128), .int .u8 ((n : Int) / 268435456)] : Array Value).toList = ([UInt8.ofNat (n % 128 + 128), UInt8.ofNat (n / 128 % 128 + 128), UInt8.ofNat (n / 16384 % 128 + 128), UInt8.ofNat (n / 2097152 % 128 + 128), UInt8.ofNat (n / 268435456)] : Bs).map bv := by
    simp only [List.map_cons, List.map_nil, bv, UInt8.toNat_ofNat', List.cons.injEq, Value.int.injEq, true_and, and_true]
    omega
  have HC : Hid _ := Lib.hid hc
  clear hc
  go_enter Try.func68, Try.ntmps68
  go_wp2_with (first
    | (go_at_call 100; refine (UL _).mono ?_; rintro e w1 ⟨rfl, rfl⟩)
    | (at_builtin; go_loud (refine app_new_at rfl _ _ rfl B _ acc rfl ho _ [UInt8.ofNat (n % 128 + 128), UInt8.ofNat (n / 128 % 128 + 128), UInt8.ofNat (n / 16384 % 128 + 128), UInt8.ofNat (n / 2097152 % 128 + 128), UInt8.ofNat (n / 268435456)] 5 rfl HC.out rfl (by simp; omega) hB ?_; intro v' w2 hown hgr)))
  go_ret
  exact ⟨_, rfl, hown, hgr⟩
theorem appuv_at {B : Nat} {v : Value} {acc : Bs} {w : World} {n : Nat} (ho : OB w B v acc) (hB : B ≤ w.heap.size) (hn : n < 4294967296) (hl : acc.length ≤ 41000000000000) :
    Calls Try.prog 68 #[v, .int .u32 (n : Int)] w fun e w' => ∃ v', e = .returned v' ∧ OB w' B v' (acc ++ uvarP n) ∧ Moved w w' v v' := by
  by_cases h1 : n < 128
  · exact appuv_1 ho hB h1 hl
  by_cases h2 : n < 16384
  · exact appuv_2 ho hB h1 h2 hl
  by_cases h3 : n < 2097152
  · exact appuv_3 ho hB h2 h3 hl
  by_cases h4 : n < 268435456
  · exact appuv_4 ho hB h3 h4 hl
  · exact appuv_5 ho hB h4 hn hl
theorem appuv_any {B : Nat} {v : Value} {acc : Bs} {w : World} {n : Nat} (ho : OB w B v acc) (hB : B ≤ w.heap.size) (hn : n < 4294967296) (hl : acc.length ≤ 41000000000000) :
    Calls Try.prog 68 #[v, .int .u32 (n : Int)] w fun e w' => ∃ v', e = .returned v' ∧ OB w' B v' (acc ++ uvarP n) ∧ Below B w w' :=
  (appuv_at ho hB hn hl).mono fun _ _ ⟨v', h1, h2, h3⟩ => ⟨v', h1, h2, h3.below hB ho⟩
end Go.Proofs.Ytidebamgmbdnaaa
