/-
  The fields of DeleteShareGroupOffsetsRequest, as plain lists.
-/
import Derived.Test.YtobbchmjgoaleaaGreatDoorMB1
import Derived.Test.YtobbchmjgoaleaaGreatDoorMB13
import Derived.Test.YtobbchmjgoaleaaGreatDoorMB16
import Derived.Deep.CutBlock
import Derived.Deep.DeepCutAuto
namespace Go.Proofs.YtobbchmjgoaleaaGreatDoor

def q_DeleteShareGroupOffsetsRequestTopic : List F := [.mk 8 0 (-1) (-1) (-1) 0 0 []]
def q_DeleteShareGroupOffsetsRequest : List F := [.mk 8 0 (-1) (-1) (-1) 0 0 [], .mk 11 0 (-1) (-1) (-1) 0 10 q_DeleteShareGroupOffsetsRequestTopic]
end Go.Proofs.YtobbchmjgoaleaaGreatDoor
/-
  DeleteShareGroupOffsetsRequest: reading.
-/
namespace Go.Proofs.YtobbchmjgoaleaaGreatDoor
open Go.ChangeShapes Go.WideShapes Go.ChangeAt Go.RowKit

theorem d_DeleteShareGroupOffsetsRequest (w : World) (x : Value) : Calls Tryz.prog 159 #[x] w fun e w' => e = .returned (.tuple #[]) ∧ w = w' := by
  go_enter Tryz.func159, Tryz.ntmps159
  go_wp2
  refine bodyPost_end (v := .tuple #[]) (by simp [results, Tryz.results159, go_sem]) rfl ?_
  exact ⟨rfl, rfl⟩
theorem d_DeleteShareGroupOffsetsRequestTopic (w : World) (x : Value) : Calls Tryz.prog 205 #[x] w fun e w' => e = .returned (.tuple #[]) ∧ w = w' := by
  go_enter Tryz.func205, Tryz.ntmps205
  go_wp2
  refine bodyPost_end (v := .tuple #[]) (by simp [results, Tryz.results205, go_sem]) rfl ?_
  exact ⟨rfl, rfl⟩
theorem info_DeleteShareGroupOffsetsRequestTopic : (Tryz.prog.info? 123).map (fun i => (i.zero, i.size, decide (i.bytes ≤ 65536))) = some (some (.agg #[.string ⟨#[]⟩, .map none]), 2, true) := by kernel_rfl
end Go.Proofs.YtobbchmjgoaleaaGreatDoor
