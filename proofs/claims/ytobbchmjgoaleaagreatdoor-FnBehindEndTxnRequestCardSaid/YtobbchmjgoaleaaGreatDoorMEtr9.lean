/-
  EndTxnRequest: reading.
-/
import Derived.Test.YtobbchmjgoaleaaGreatDoorMEtr8
import Derived.Deep.CutBlock
import Derived.Deep.DeepCutAuto
namespace Go.Proofs.YtobbchmjgoaleaaGreatDoor
open Go.ChangeShapes Go.WideShapes Go.ChangeAt Go.RowKit

theorem d_EndTxnRequest (w : World) (x : Value) : Calls Tryz.prog 141 #[x] w fun e w' => e = .returned (.tuple #[]) ∧ w = w' := by
  go_enter Tryz.func141, Tryz.ntmps141
  go_wp2
  refine bodyPost_end (v := .tuple #[]) (by simp [results, Tryz.results141, go_sem]) rfl ?_
  exact ⟨rfl, rfl⟩
end Go.Proofs.YtobbchmjgoaleaaGreatDoor
