/-
  The fields of DescribeACLsRequest, as plain lists.
-/
import Derived.Test.YtobbchmjgoaleaaGreatDoorMB1
import Derived.Test.YtobbchmjgoaleaaGreatDoorMB14
import Derived.Test.YtobbchmjgoaleaaGreatDoorMB17
import Derived.Deep.CutBlock
import Derived.Deep.DeepCutAuto
namespace Go.Proofs.YtobbchmjgoaleaaGreatDoor

def q_DescribeACLsRequest : List F := [.mk 1 0 (-1) (-1) (-1) 0 0 [], .mk 8 0 (-1) 0 (-1) 0 0 [], .mk 1 1 (-1) (-1) (-1) 3 0 [], .mk 8 0 (-1) 0 (-1) 0 0 [], .mk 8 0 (-1) 0 (-1) 0 0 [], .mk 1 0 (-1) (-1) (-1) 0 0 [], .mk 1 0 (-1) (-1) (-1) 0 0 []]
end Go.Proofs.YtobbchmjgoaleaaGreatDoor
/-
  DescribeACLsRequest: reading.
-/
namespace Go.Proofs.YtobbchmjgoaleaaGreatDoor
open Go.ChangeShapes Go.WideShapes Go.ChangeAt Go.RowKit

set_option maxRecDepth 100000 in
theorem d_DescribeACLsRequest {w : World} {b : Nat} (c3 : w.cell? ⟨b, 3, none⟩ = some (.int .i8 3)) (f3 : w.frozen? ⟨b, 3, none⟩ = false) : Calls Tryz.prog 161 #[.pointer (some ⟨b, 0, none⟩)] w fun e w' => e = .returned (.tuple #[]) ∧ w = w' := by
  have e3 := setCell_self c3
  go_enter Tryz.func161, Tryz.ntmps161
  go_wp2
  refine bodyPost_end (v := .tuple #[]) (by simp [results, Tryz.results161, go_sem]) rfl ⟨rfl, rfl⟩
set_option maxRecDepth 100000 in
theorem dar_default0 {w : World} {b : Nat} (hb : w.heap[b]? = some (.cells #[.int .i16 0, .int .i8 0, .pointer none, .int .i8 0, .pointer none, .pointer none, .int .i8 0, .int .i8 0, .map none] 130 (0, 0))) : Calls Tryz.prog 161 #[.pointer (some ⟨b, 0, none⟩)] w fun e w' => e = .returned (.tuple #[]) ∧ (w.setCell ⟨b, 3, none⟩ (.int .i8 3)) = w' := by
  have c3 := cellOf hb 3 _ rfl
  have f3 := freeOf hb 3
  clear hb
  go_enter Tryz.func161, Tryz.ntmps161
  go_wp2
  exact bodyPost_end (v := .tuple #[]) (by simp [results, Tryz.results161, go_sem]) rfl ⟨rfl, rfl⟩
end Go.Proofs.YtobbchmjgoaleaaGreatDoor
