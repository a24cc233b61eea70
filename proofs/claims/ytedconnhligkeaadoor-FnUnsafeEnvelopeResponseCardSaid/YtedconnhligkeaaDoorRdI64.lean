/-
  Reader.readUint64, Reader.Int64.
-/
import Derived.Test.YtedconnhligkeaaDoorRead
namespace Go.Proofs.YtedconnhligkeaaDoor
open Go.ChangeShapes Go.WideShapes Go.ChangeAt Go.RowKit

theorem i64_val (b0 b1 b2 b3 b4 b5 b6 b7 : UInt8) (r : Bs) (bad : Bool) : (rdI 8 (b0 :: b1 :: b2 :: b3 :: b4 :: b5 :: b6 :: b7 :: r, bad)).1 = IntKind.i64.wrap (72057594037927936 * (b0.toNat : Int) + 281474976710656 * b1.toNat + 1099511627776 * b2.toNat + 4294967296 * b3.toNat + 16777216 * b4.toNat + 65536 * b5.toNat + 256 * b6.toNat + b7.toNat) := by
  have h0 : b0.toNat < 256 := b0.toNat_lt
  have h1 : b1.toNat < 256 := b1.toNat_lt
  have h2 : b2.toNat < 256 := b2.toNat_lt
  have h3 : b3.toNat < 256 := b3.toNat_lt
  have h4 : b4.toNat < 256 := b4.toNat_lt
  have h5 : b5.toNat < 256 := b5.toNat_lt
  have h6 : b6.toNat < 256 := b6.toNat_lt
  have h7 : b7.toNat < 256 := b7.toNat_lt
  simp only [rdI, rdN, List.length_cons, if_neg (show ¬ r.length + 1 + 1 + 1 + 1 + 1 + 1 + 1 + 1 < 8 by omega), List.take_succ_cons, List.take_zero, be, List.foldl_cons, List.foldl_nil, sgn, IntKind.wrap_i64]
  split <;> omega
theorem rdI8_wrap (s : St) : (rdI 8 s).1 = IntKind.i64.wrap ((rdN 8 s).1 : Int) := by
  have h := rdN_lt 8 s
  simp only [rdI, sgn, IntKind.wrap_i64]
  split <;> omega
theorem rdN_val (b0 b1 b2 b3 b4 b5 b6 b7 : UInt8) (r : Bs) (bad : Bool) : ((rdN 8 (b0 :: b1 :: b2 :: b3 :: b4 :: b5 :: b6 :: b7 :: r, bad)).1 : Int) = 72057594037927936 * (b0.toNat : Int) + 281474976710656 * b1.toNat + 1099511627776 * b2.toNat + 4294967296 * b3.toNat + 16777216 * b4.toNat + 65536 * b5.toNat + 256 * b6.toNat + b7.toNat := by
  simp only [rdN, List.length_cons, if_neg (show ¬ r.length + 1 + 1 + 1 + 1 + 1 + 1 + 1 + 1 < 8 by omega), List.take_succ_cons, List.take_zero, be, List.foldl_cons, List.foldl_nil]
  omega
end Go.Proofs.YtedconnhligkeaaDoor
