/-
  The fields of DeleteShareGroupStateResponse, as plain lists.
-/
import Derived.Test.YtalgpkkphlfooaaGreatDoorMB1
import Derived.Test.YtalgpkkphlfooaaGreatDoorMB13
import Derived.Test.YtalgpkkphlfooaaGreatDoorMB16
import Derived.Deep.CutBlock
import Derived.Deep.DeepCutAuto
namespace Go.Proofs.YtalgpkkphlfooaaGreatDoor

def q_DeleteShareGroupStateResponseTopicPartition : List F := [.mk 3 0 (-1) (-1) (-1) 0 0 [], .mk 2 0 (-1) (-1) (-1) 0 0 [], .mk 8 0 (-1) 0 (-1) 0 0 []]
def q_DeleteShareGroupStateResponseTopic : List F := [.mk 7 0 (-1) (-1) (-1) 0 0 [], .mk 11 0 (-1) (-1) (-1) 0 10 q_DeleteShareGroupStateResponseTopicPartition]
def q_DeleteShareGroupStateResponse : List F := [.mk 11 0 (-1) (-1) (-1) 0 10 q_DeleteShareGroupStateResponseTopic]
end Go.Proofs.YtalgpkkphlfooaaGreatDoor
/-
  DeleteShareGroupStateResponse: reading.
-/
namespace Go.Proofs.YtalgpkkphlfooaaGreatDoor
open Go.ChangeShapes Go.WideShapes Go.ChangeAt Go.RowKit

set_option maxRecDepth 100000 in
theorem d_DeleteShareGroupStateResponse (w : World) (x : Value) : Calls Tryz.prog 89 #[x] w fun e w' => e = .returned (.tuple #[]) ∧ w = w' := by
  go_enter Tryz.func89, Tryz.ntmps89
  go_wp2
  refine bodyPost_end (v := .tuple #[]) (by simp [results, Tryz.results89, go_sem]) rfl ?_
  exact ⟨rfl, rfl⟩
set_option maxRecDepth 100000 in
theorem d_DeleteShareGroupStateResponseTopicPartition (w : World) (x : Value) : Calls Tryz.prog 135 #[x] w fun e w' => e = .returned (.tuple #[]) ∧ w = w' := by
  go_enter Tryz.func135, Tryz.ntmps135
  go_wp2
  refine bodyPost_end (v := .tuple #[]) (by simp [results, Tryz.results135, go_sem]) rfl ?_
  exact ⟨rfl, rfl⟩
set_option maxRecDepth 100000 in
theorem d_DeleteShareGroupStateResponseTopic (w : World) (x : Value) : Calls Tryz.prog 133 #[x] w fun e w' => e = .returned (.tuple #[]) ∧ w = w' := by
  go_enter Tryz.func133, Tryz.ntmps133
  go_wp2
  refine bodyPost_end (v := .tuple #[]) (by simp [results, Tryz.results133, go_sem]) rfl ?_
  exact ⟨rfl, rfl⟩
set_option maxRecDepth 100000 in
theorem info_DeleteShareGroupStateResponseTopicPartition : (Tryz.prog.info? 121).map (fun i => (i.zero, i.size, decide (i.bytes ≤ 65536))) = some (some (.agg #[.int .i32 0, .int .i16 0, .pointer none, .map none]), 4, true) := by kernel_rfl
set_option maxRecDepth 100000 in
theorem info_DeleteShareGroupStateResponseTopic : (Tryz.prog.info? 117).map (fun i => (i.zero, i.size, decide (i.bytes ≤ 65536))) = some (some (.agg #[.int .u8 0, .int .u8 0, .int .u8 0, .int .u8 0, .int .u8 0, .int .u8 0, .int .u8 0, .int .u8 0, .int .u8 0, .int .u8 0, .int .u8 0, .int .u8 0, .int .u8 0, .int .u8 0, .int .u8 0, .int .u8 0, .slice none 0 0, .map none]), 18, true) := by kernel_rfl
end Go.Proofs.YtalgpkkphlfooaaGreatDoor
