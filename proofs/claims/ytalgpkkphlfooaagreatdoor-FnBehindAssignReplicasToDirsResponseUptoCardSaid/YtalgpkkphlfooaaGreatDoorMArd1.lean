/-
  The fields of AssignReplicasToDirsResponse, as plain lists.
-/
import Derived.Test.YtalgpkkphlfooaaGreatDoorMB1
import Derived.Test.YtalgpkkphlfooaaGreatDoorMB13
import Derived.Test.YtalgpkkphlfooaaGreatDoorMB16
import Derived.Deep.CutBlock
import Derived.Deep.DeepCutAuto
namespace Go.Proofs.YtalgpkkphlfooaaGreatDoor

def q_AssignReplicasToDirsResponseDirectoryTopicPartition : List F := [.mk 3 0 (-1) (-1) (-1) 0 0 [], .mk 2 0 (-1) (-1) (-1) 0 0 []]
def q_AssignReplicasToDirsResponseDirectoryTopic : List F := [.mk 7 0 (-1) (-1) (-1) 0 0 [], .mk 11 0 (-1) (-1) (-1) 0 10 q_AssignReplicasToDirsResponseDirectoryTopicPartition]
def q_AssignReplicasToDirsResponseDirectory : List F := [.mk 7 0 (-1) (-1) (-1) 0 0 [], .mk 11 0 (-1) (-1) (-1) 0 10 q_AssignReplicasToDirsResponseDirectoryTopic]
def q_AssignReplicasToDirsResponse : List F := [.mk 3 0 (-1) (-1) (-1) 0 0 [], .mk 2 0 (-1) (-1) (-1) 0 0 [], .mk 11 0 (-1) (-1) (-1) 0 10 q_AssignReplicasToDirsResponseDirectory]
end Go.Proofs.YtalgpkkphlfooaaGreatDoor
/-
  AssignReplicasToDirsResponse: reading.
-/
namespace Go.Proofs.YtalgpkkphlfooaaGreatDoor
open Go.ChangeShapes Go.WideShapes Go.ChangeAt Go.RowKit

set_option maxRecDepth 100000 in
theorem d_AssignReplicasToDirsResponse (w : World) (x : Value) : Calls Tryz.prog 93 #[x] w fun e w' => e = .returned (.tuple #[]) ∧ w = w' := by
  go_enter Tryz.func93, Tryz.ntmps93
  go_wp2
  refine bodyPost_end (v := .tuple #[]) (by simp [results, Tryz.results93, go_sem]) rfl ?_
  exact ⟨rfl, rfl⟩
set_option maxRecDepth 100000 in
theorem d_AssignReplicasToDirsResponseDirectoryTopicPartition (w : World) (x : Value) : Calls Tryz.prog 139 #[x] w fun e w' => e = .returned (.tuple #[]) ∧ w = w' := by
  go_enter Tryz.func139, Tryz.ntmps139
  go_wp2
  refine bodyPost_end (v := .tuple #[]) (by simp [results, Tryz.results139, go_sem]) rfl ?_
  exact ⟨rfl, rfl⟩
set_option maxRecDepth 100000 in
theorem d_AssignReplicasToDirsResponseDirectoryTopic (w : World) (x : Value) : Calls Tryz.prog 138 #[x] w fun e w' => e = .returned (.tuple #[]) ∧ w = w' := by
  go_enter Tryz.func138, Tryz.ntmps138
  go_wp2
  refine bodyPost_end (v := .tuple #[]) (by simp [results, Tryz.results138, go_sem]) rfl ?_
  exact ⟨rfl, rfl⟩
set_option maxRecDepth 100000 in
theorem d_AssignReplicasToDirsResponseDirectory (w : World) (x : Value) : Calls Tryz.prog 137 #[x] w fun e w' => e = .returned (.tuple #[]) ∧ w = w' := by
  go_enter Tryz.func137, Tryz.ntmps137
  go_wp2
  refine bodyPost_end (v := .tuple #[]) (by simp [results, Tryz.results137, go_sem]) rfl ?_
  exact ⟨rfl, rfl⟩
set_option maxRecDepth 100000 in
theorem info_AssignReplicasToDirsResponseDirectoryTopicPartition : (Tryz.prog.info? 135).map (fun i => (i.zero, i.size, decide (i.bytes ≤ 65536))) = some (some (.agg #[.int .i32 0, .int .i16 0, .map none]), 3, true) := by kernel_rfl
set_option maxRecDepth 100000 in
theorem info_AssignReplicasToDirsResponseDirectoryTopic : (Tryz.prog.info? 132).map (fun i => (i.zero, i.size, decide (i.bytes ≤ 65536))) = some (some (.agg #[.int .u8 0, .int .u8 0, .int .u8 0, .int .u8 0, .int .u8 0, .int .u8 0, .int .u8 0, .int .u8 0, .int .u8 0, .int .u8 0, .int .u8 0, .int .u8 0, .int .u8 0, .int .u8 0, .int .u8 0, .int .u8 0, .slice none 0 0, .map none]), 18, true) := by kernel_rfl
set_option maxRecDepth 100000 in
theorem info_AssignReplicasToDirsResponseDirectory : (Tryz.prog.info? 128).map (fun i => (i.zero, i.size, decide (i.bytes ≤ 65536))) = some (some (.agg #[.int .u8 0, .int .u8 0, .int .u8 0, .int .u8 0, .int .u8 0, .int .u8 0, .int .u8 0, .int .u8 0, .int .u8 0, .int .u8 0, .int .u8 0, .int .u8 0, .int .u8 0, .int .u8 0, .int .u8 0, .int .u8 0, .slice none 0 0, .map none]), 18, true) := by kernel_rfl
end Go.Proofs.YtalgpkkphlfooaaGreatDoor
