/-
  The fields of CreatePartitionsResponse, as plain lists.
-/
import Derived.Test.YtobbchmjgoaleaaGreatDoorMB1
import Derived.Test.YtobbchmjgoaleaaGreatDoorMB13
import Derived.Test.YtobbchmjgoaleaaGreatDoorMB16
import Derived.Deep.CutBlock
import Derived.Deep.DeepCutAuto
namespace Go.Proofs.YtobbchmjgoaleaaGreatDoor

def q_CreatePartitionsResponseTopic : List F := [.mk 8 0 (-1) (-1) (-1) 0 0 [], .mk 2 0 (-1) (-1) (-1) 0 0 [], .mk 8 0 (-1) 0 (-1) 0 0 []]
def q_CreatePartitionsResponse : List F := [.mk 3 0 (-1) (-1) (-1) 0 0 [], .mk 11 0 (-1) (-1) (-1) 0 10 q_CreatePartitionsResponseTopic]
end Go.Proofs.YtobbchmjgoaleaaGreatDoor
/-
  CreatePartitionsResponse: reading.
-/
namespace Go.Proofs.YtobbchmjgoaleaaGreatDoor
open Go.ChangeShapes Go.WideShapes Go.ChangeAt Go.RowKit

theorem d_CreatePartitionsResponse (w : World) (x : Value) : Calls Tryz.prog 164 #[x] w fun e w' => e = .returned (.tuple #[]) ∧ w = w' := by
  go_enter Tryz.func164, Tryz.ntmps164
  go_wp2
  refine bodyPost_end (v := .tuple #[]) (by simp [results, Tryz.results164, go_sem]) rfl ?_
  exact ⟨rfl, rfl⟩
theorem d_CreatePartitionsResponseTopic (w : World) (x : Value) : Calls Tryz.prog 207 #[x] w fun e w' => e = .returned (.tuple #[]) ∧ w = w' := by
  go_enter Tryz.func207, Tryz.ntmps207
  go_wp2
  refine bodyPost_end (v := .tuple #[]) (by simp [results, Tryz.results207, go_sem]) rfl ?_
  exact ⟨rfl, rfl⟩
theorem info_CreatePartitionsResponseTopic : (Tryz.prog.info? 137).map (fun i => (i.zero, i.size, decide (i.bytes ≤ 65536))) = some (some (.agg #[.string ⟨#[]⟩, .int .i16 0, .pointer none, .map none]), 4, true) := by kernel_rfl
end Go.Proofs.YtobbchmjgoaleaaGreatDoor
