/-
  kbin.AppendUvarint: a number in groups of seven bits onto octets of the call's own.
-/
import Derived.Test.YtdklogmmfnddiaaDoorMB6
import Derived.Test.YtdklogmmfnddiaaDoorMB8
import Derived.Test.YtdklogmmfnddiaaDoorMB1
import Derived.Test.YtdklogmmfnddiaaDoorMB7
import Derived.Shelf.Small.Bits
import Derived.Lib.Hide
namespace Go.Proofs.YtdklogmmfnddiaaDoor
open Go.ChangeShapes Go.WideShapes Go.ChangeAt Go.RowKit

/-- where the kit's contract of bits.Len32 finds its functions and types here -/
def ren32 : Go.Shelf.Ren := ⟨fun n => if n = 128 then 91 else n, fun n => if n = 3 then 3 else if n = 4 then 4 else if n = 5 then 5 else if n = 9 then 9 else if n = 46 then 111 else 61, fun n => n⟩
theorem lays32 : Go.Proofs.Lays.n128 Tryd.prog ren32 := {
  mixed := by kernel_rfl
  f128 := Tryd.func91.trans (congrArg some (by kernel_rfl))
  t3 := Tryd.underlying3
  a3 := Tryd.isAgg3
  z3 := Tryd.sizeOf3
  v3 := Tryd.zeroValue3
  t4 := Tryd.underlying4
  a4 := Tryd.isAgg4
  z4 := Tryd.sizeOf4
  v4 := Tryd.zeroValue4
  t5 := Tryd.underlying5
  a5 := Tryd.isAgg5
  z5 := Tryd.sizeOf5
  v5 := Tryd.zeroValue5
  t9 := Tryd.underlying9
  a9 := Tryd.isAgg9
  z9 := Tryd.sizeOf9
  v9 := Tryd.zeroValue9
  t46 := Tryd.underlying111
  a46 := Tryd.isAgg111
  z46 := Tryd.sizeOf111
  v46 := Tryd.zeroValue111
  t51 := Tryd.underlying61
  a51 := Tryd.isAgg61
  z51 := Tryd.sizeOf61
  v51 := Tryd.zeroValue61 }
theorem len32_any (x : Int) (w : World) (h0 : 0 ≤ x) (h1 : x ≤ 4294967295) :
    Calls Tryd.prog 91 #[.int .u32 x] w fun e w' => e = .returned (.int .i64 (Lib.bitLen x.toNat)) ∧ w = w' :=
  (Any.bits_Len32 lays32 x w h0 h1).mono fun _ _ h => ⟨h.1, h.2.symm⟩
/-- how many groups, by how many bits -/
def glen (L : Nat) : Nat := if L ≤ 7 then 1 else if L ≤ 14 then 2 else if L ≤ 21 then 3 else if L ≤ 28 then 4 else 5
theorem bitLen_up (k x : Nat) (h : 2 ^ k ≤ x) (hx : x < 18446744073709551616) : k < Lib.bitLen x := by
  have e := Lib.bitLen_shift k x h hx
  have hq : x / 2 ^ k ≠ 0 := by
    have : 1 ≤ x / 2 ^ k := (Nat.le_div_iff_mul_le (Nat.pow_pos (by decide))).2 (by omega)
    omega
  have hq2 : x / 2 ^ k < 2 ^ 64 := Nat.lt_of_le_of_lt (Nat.div_le_self _ _) hx
  have e2 := Lib.bitLen_half (x / 2 ^ k) hq hq2
  omega
theorem glen_eq (n : Nat) (hn : n < 4294967296) : glen (Lib.bitLen n) = (uvarP n).length := by
  have hx : n < 18446744073709551616 := by omega
  unfold glen
  by_cases h1 : n < 128
  · rw [if_pos (Lib.bitLen_le n 7 (by decide) h1), uvarP_small (by omega)]
    rfl
  have u1 := bitLen_up 7 n (by omega) hx
  rw [if_neg (by omega), uvarP_big (by omega)]
  by_cases h2 : n < 16384
  · rw [if_pos (Lib.bitLen_le n 14 (by decide) h2), uvarP_small (n := n / 128) (by omega)]
    rfl
  have u2 := bitLen_up 14 n (by omega) hx
  rw [if_neg (by omega), uvarP_big (n := n / 128) (by omega)]
  by_cases h3 : n < 2097152
  · rw [if_pos (Lib.bitLen_le n 21 (by decide) h3), uvarP_small (n := n / 128 / 128) (by omega)]
    rfl
  have u3 := bitLen_up 21 n (by omega) hx
  rw [if_neg (by omega), uvarP_big (n := n / 128 / 128) (by omega)]
  by_cases h4 : n < 268435456
  · rw [if_pos (Lib.bitLen_le n 28 (by decide) h4), uvarP_small (n := n / 128 / 128 / 128) (by omega)]
    rfl
  have u4 := bitLen_up 28 n (by omega) hx
  rw [if_neg (by omega), uvarP_big (n := n / 128 / 128 / 128) (by omega), uvarP_small (n := n / 128 / 128 / 128 / 128) (by omega)]
  rfl
theorem and127 (x : Int) (h0 : 0 ≤ x) (h1 : x < 4294967296) : bits .and .u32 x 127 = x % 128 := bits_mask .u32 32 (by decide) wraps_u32 7 (by decide) _ h0 (by simpa using h1)
theorem or128 (x : Int) (h0 : 0 ≤ x) (h1 : x < 128) : bits .or .u32 x 128 = x + 128 := by
  have h := or_up .u32 32 (by decide) wraps_u32 7 128 x (by decide) (by decide) (by decide) h0 (by simpa using h1) (by decide)
  exact h
end Go.Proofs.YtdklogmmfnddiaaDoor
