/-
  The fields of ShareAcknowledgeResponse, as plain lists.
-/
import Derived.Test.YtalgpkkphlfooaaGreatDoorMB1
import Derived.Test.YtalgpkkphlfooaaGreatDoorMB13
import Derived.Test.YtalgpkkphlfooaaGreatDoorMB16
import Derived.Deep.CutBlock
import Derived.Deep.DeepCutAuto
namespace Go.Proofs.YtalgpkkphlfooaaGreatDoor

def q_ShareAcknowledgeResponseTopicPartitionCurrentLeader : List F := [.mk 3 0 (-1) (-1) (-1) 0 0 [], .mk 3 0 (-1) (-1) (-1) 0 0 []]
def q_ShareAcknowledgeResponseTopicPartition : List F := [.mk 3 0 (-1) (-1) (-1) 0 0 [], .mk 2 0 (-1) (-1) (-1) 0 0 [], .mk 8 0 (-1) 0 (-1) 0 0 [], .mk 10 0 (-1) (-1) (-1) 0 0 q_ShareAcknowledgeResponseTopicPartitionCurrentLeader]
def q_ShareAcknowledgeResponseTopic : List F := [.mk 7 0 (-1) (-1) (-1) 0 0 [], .mk 11 0 (-1) (-1) (-1) 0 10 q_ShareAcknowledgeResponseTopicPartition]
def q_ShareAcknowledgeResponseNodeEndpoint : List F := [.mk 3 0 (-1) (-1) (-1) 0 0 [], .mk 8 0 (-1) (-1) (-1) 0 0 [], .mk 3 0 (-1) (-1) (-1) 0 0 [], .mk 8 0 (-1) 0 (-1) 0 0 []]
def q_ShareAcknowledgeResponse : List F := [.mk 3 0 (-1) (-1) (-1) 0 0 [], .mk 2 0 (-1) (-1) (-1) 0 0 [], .mk 8 0 (-1) 0 (-1) 0 0 [], .mk 3 2 (-1) (-1) (-1) 0 0 [], .mk 11 0 (-1) (-1) (-1) 0 10 q_ShareAcknowledgeResponseTopic, .mk 11 0 (-1) (-1) (-1) 0 10 q_ShareAcknowledgeResponseNodeEndpoint]
end Go.Proofs.YtalgpkkphlfooaaGreatDoor
/-
  ShareAcknowledgeResponse: reading.
-/
namespace Go.Proofs.YtalgpkkphlfooaaGreatDoor
open Go.ChangeShapes Go.WideShapes Go.ChangeAt Go.RowKit

set_option maxRecDepth 100000 in
theorem d_ShareAcknowledgeResponse (w : World) (x : Value) : Calls Tryz.prog 96 #[x] w fun e w' => e = .returned (.tuple #[]) ∧ w = w' := by
  go_enter Tryz.func96, Tryz.ntmps96
  go_wp2
  refine bodyPost_end (v := .tuple #[]) (by simp [results, Tryz.results96, go_sem]) rfl ?_
  exact ⟨rfl, rfl⟩
set_option maxRecDepth 100000 in
theorem d_ShareAcknowledgeResponseTopicPartitionCurrentLeader (w : World) (x : Value) : Calls Tryz.prog 143 #[x] w fun e w' => e = .returned (.tuple #[]) ∧ w = w' := by
  go_enter Tryz.func143, Tryz.ntmps143
  go_wp2
  refine bodyPost_end (v := .tuple #[]) (by simp [results, Tryz.results143, go_sem]) rfl ?_
  exact ⟨rfl, rfl⟩
set_option maxRecDepth 100000 in
theorem d_ShareAcknowledgeResponseTopicPartition (w : World) (x : Addr) : Calls Tryz.prog 142 #[.pointer (some x)] w fun e w' => e = .returned (.tuple #[]) ∧ w = w' := by
  go_enter Tryz.func142, Tryz.ntmps142
  go_wp2
  refine bodyPost_end (v := .tuple #[]) (by simp [results, Tryz.results142, go_sem]) rfl ?_
  exact ⟨rfl, rfl⟩
set_option maxRecDepth 100000 in
theorem d_ShareAcknowledgeResponseTopic (w : World) (x : Value) : Calls Tryz.prog 141 #[x] w fun e w' => e = .returned (.tuple #[]) ∧ w = w' := by
  go_enter Tryz.func141, Tryz.ntmps141
  go_wp2
  refine bodyPost_end (v := .tuple #[]) (by simp [results, Tryz.results141, go_sem]) rfl ?_
  exact ⟨rfl, rfl⟩
set_option maxRecDepth 100000 in
theorem d_ShareAcknowledgeResponseNodeEndpoint (w : World) (x : Value) : Calls Tryz.prog 144 #[x] w fun e w' => e = .returned (.tuple #[]) ∧ w = w' := by
  go_enter Tryz.func144, Tryz.ntmps144
  go_wp2
  refine bodyPost_end (v := .tuple #[]) (by simp [results, Tryz.results144, go_sem]) rfl ?_
  exact ⟨rfl, rfl⟩
set_option maxRecDepth 100000 in
theorem info_ShareAcknowledgeResponseTopicPartitionCurrentLeader : (Tryz.prog.info? 146).map (fun i => (i.zero, i.size, decide (i.bytes ≤ 65536))) = some (some (.agg #[.int .i32 0, .int .i32 0, .map none]), 3, true) := by kernel_rfl
set_option maxRecDepth 100000 in
theorem info_ShareAcknowledgeResponseTopicPartition : (Tryz.prog.info? 148).map (fun i => (i.zero, i.size, decide (i.bytes ≤ 65536))) = some (some (.agg #[.int .i32 0, .int .i16 0, .pointer none, .int .i32 0, .int .i32 0, .map none, .map none]), 7, true) := by kernel_rfl
set_option maxRecDepth 100000 in
theorem info_ShareAcknowledgeResponseTopic : (Tryz.prog.info? 143).map (fun i => (i.zero, i.size, decide (i.bytes ≤ 65536))) = some (some (.agg #[.int .u8 0, .int .u8 0, .int .u8 0, .int .u8 0, .int .u8 0, .int .u8 0, .int .u8 0, .int .u8 0, .int .u8 0, .int .u8 0, .int .u8 0, .int .u8 0, .int .u8 0, .int .u8 0, .int .u8 0, .int .u8 0, .slice none 0 0, .map none]), 18, true) := by kernel_rfl
set_option maxRecDepth 100000 in
theorem info_ShareAcknowledgeResponseNodeEndpoint : (Tryz.prog.info? 152).map (fun i => (i.zero, i.size, decide (i.bytes ≤ 65536))) = some (some (.agg #[.int .i32 0, .string ⟨#[]⟩, .int .i32 0, .pointer none, .map none]), 5, true) := by kernel_rfl
end Go.Proofs.YtalgpkkphlfooaaGreatDoor
