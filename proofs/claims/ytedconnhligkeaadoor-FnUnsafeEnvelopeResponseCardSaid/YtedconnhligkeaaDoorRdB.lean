/-
  Reader.Bool, Int8, Ok.
-/
import Derived.Test.YtedconnhligkeaaDoorRead
namespace Go.Proofs.YtedconnhligkeaaDoor
open Go.ChangeShapes Go.WideShapes Go.ChangeAt Go.RowKit

def rdBool (s : St) : Bool × St := (((rdN 1 s).1 : Int) != 0, (rdN 1 s).2)
theorem i8_val (b0 : UInt8) (r : Bs) (bad : Bool) : (rdI 1 (b0 :: r, bad)).1 = IntKind.i8.wrap (b0.toNat : Int) := by
  have h0 : b0.toNat < 256 := b0.toNat_lt
  simp only [rdI, rdN, List.length_cons, if_neg (show ¬ r.length + 1 < 1 by omega), List.take_succ_cons, List.take_zero, be, List.foldl_cons, List.foldl_nil, sgn, wrap_i8']
  split <;> split <;> omega
theorem n8_val (b0 : UInt8) (r : Bs) (bad : Bool) : (rdN 1 (b0 :: r, bad)).1 = b0.toNat := by
  simp only [rdN, List.length_cons, if_neg (show ¬ r.length + 1 < 1 by omega), List.take_succ_cons, List.take_zero, be, List.foldl_cons, List.foldl_nil]
  omega
end Go.Proofs.YtedconnhligkeaaDoor
