/-
  The fields of ListPartitionReassignmentsResponse, as plain lists.
-/
import Derived.Test.YtalgpkkphlfooaaGreatDoorMB1
import Derived.Test.YtalgpkkphlfooaaGreatDoorMB13
import Derived.Test.YtalgpkkphlfooaaGreatDoorMB16
import Derived.Deep.CutBlock
import Derived.Deep.DeepCutAuto
namespace Go.Proofs.YtalgpkkphlfooaaGreatDoor

def q_ListPartitionReassignmentsResponseTopicPartition : List F := [.mk 3 0 (-1) (-1) (-1) 0 0 [], .mk 11 0 (-1) (-1) (-1) 0 3 [], .mk 11 0 (-1) (-1) (-1) 0 3 [], .mk 11 0 (-1) (-1) (-1) 0 3 []]
def q_ListPartitionReassignmentsResponseTopic : List F := [.mk 8 0 (-1) (-1) (-1) 0 0 [], .mk 11 0 (-1) (-1) (-1) 0 10 q_ListPartitionReassignmentsResponseTopicPartition]
def q_ListPartitionReassignmentsResponse : List F := [.mk 3 0 (-1) (-1) (-1) 0 0 [], .mk 2 0 (-1) (-1) (-1) 0 0 [], .mk 8 0 (-1) 0 (-1) 0 0 [], .mk 11 0 (-1) (-1) (-1) 0 10 q_ListPartitionReassignmentsResponseTopic]
end Go.Proofs.YtalgpkkphlfooaaGreatDoor
/-
  ListPartitionReassignmentsResponse: reading.
-/
namespace Go.Proofs.YtalgpkkphlfooaaGreatDoor
open Go.ChangeShapes Go.WideShapes Go.ChangeAt Go.RowKit

set_option maxRecDepth 100000 in
theorem d_ListPartitionReassignmentsResponse (w : World) (x : Value) : Calls Tryz.prog 62 #[x] w fun e w' => e = .returned (.tuple #[]) ∧ w = w' := by
  go_enter Tryz.func62, Tryz.ntmps62
  go_wp2
  refine bodyPost_end (v := .tuple #[]) (by simp [results, Tryz.results62, go_sem]) rfl ?_
  exact ⟨rfl, rfl⟩
set_option maxRecDepth 100000 in
theorem d_ListPartitionReassignmentsResponseTopicPartition (w : World) (x : Value) : Calls Tryz.prog 120 #[x] w fun e w' => e = .returned (.tuple #[]) ∧ w = w' := by
  go_enter Tryz.func120, Tryz.ntmps120
  go_wp2
  refine bodyPost_end (v := .tuple #[]) (by simp [results, Tryz.results120, go_sem]) rfl ?_
  exact ⟨rfl, rfl⟩
set_option maxRecDepth 100000 in
theorem d_ListPartitionReassignmentsResponseTopic (w : World) (x : Value) : Calls Tryz.prog 115 #[x] w fun e w' => e = .returned (.tuple #[]) ∧ w = w' := by
  go_enter Tryz.func115, Tryz.ntmps115
  go_wp2
  refine bodyPost_end (v := .tuple #[]) (by simp [results, Tryz.results115, go_sem]) rfl ?_
  exact ⟨rfl, rfl⟩
theorem info_one3 : (Tryz.prog.info? 21).map (fun i => (i.zero, i.size, decide (i.bytes ≤ 65536))) = some (some (.int .i32 0), 1, true) := by kernel_rfl
theorem vk_one3 {W : World} {K : Nat → Prop} {p : List Value → List T → Prop} {n : Int} (h : -2147483648 ≤ n ∧ n ≤ 2147483647) : VK W K 3 (-1) p [.int .i32 n] (.mk n [] false [] []) := ⟨n, rfl, h, rfl⟩
set_option maxRecDepth 100000 in
theorem info_ListPartitionReassignmentsResponseTopicPartition : (Tryz.prog.info? 93).map (fun i => (i.zero, i.size, decide (i.bytes ≤ 65536))) = some (some (.agg #[.int .i32 0, .slice none 0 0, .slice none 0 0, .slice none 0 0, .map none]), 5, true) := by kernel_rfl
set_option maxRecDepth 100000 in
theorem info_ListPartitionReassignmentsResponseTopic : (Tryz.prog.info? 88).map (fun i => (i.zero, i.size, decide (i.bytes ≤ 65536))) = some (some (.agg #[.string ⟨#[]⟩, .slice none 0 0, .map none]), 3, true) := by kernel_rfl
end Go.Proofs.YtalgpkkphlfooaaGreatDoor
