/-
  The fields of ControllerRegistrationResponse, as plain lists.
-/
import Derived.Test.YtobbchmjgoaleaaGreatDoorMB1
import Derived.Test.YtobbchmjgoaleaaGreatDoorMB14
import Derived.Test.YtobbchmjgoaleaaGreatDoorMB17
import Derived.Deep.CutBlock
import Derived.Deep.DeepCutAuto
namespace Go.Proofs.YtobbchmjgoaleaaGreatDoor

def q_ControllerRegistrationResponse : List F := [.mk 3 0 (-1) (-1) (-1) 0 0 [], .mk 2 0 (-1) (-1) (-1) 0 0 [], .mk 8 0 (-1) 0 (-1) 0 0 []]
end Go.Proofs.YtobbchmjgoaleaaGreatDoor
/-
  ControllerRegistrationResponse: reading.
-/
namespace Go.Proofs.YtobbchmjgoaleaaGreatDoor
open Go.ChangeShapes Go.WideShapes Go.ChangeAt Go.RowKit

theorem d_ControllerRegistrationResponse (w : World) (x : Value) : Calls Tryz.prog 124 #[x] w fun e w' => e = .returned (.tuple #[]) ∧ w = w' := by
  go_enter Tryz.func124, Tryz.ntmps124
  go_wp2
  refine bodyPost_end (v := .tuple #[]) (by simp [results, Tryz.results124, go_sem]) rfl ?_
  exact ⟨rfl, rfl⟩
end Go.Proofs.YtobbchmjgoaleaaGreatDoor
