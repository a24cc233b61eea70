/-
  The fields of ElectLeadersResponse, as plain lists.
-/
import Derived.Test.YtbddchglganmdaaDoorMB1
import Derived.Test.YtbddchglganmdaaDoorMB11
import Derived.Test.YtbddchglganmdaaDoorMB15
import Derived.Deep.CutBlock
import Derived.Deep.DeepCutAuto
namespace Go.Proofs.YtbddchglganmdaaDoor

def q_ElectLeadersResponseTopicPartition : List F := [.mk 3 0 (-1) (-1) (-1) 0 0 [], .mk 2 0 (-1) (-1) (-1) 0 0 [], .mk 8 0 (-1) 0 (-1) 0 0 []]
def q_ElectLeadersResponseTopic : List F := [.mk 8 0 (-1) (-1) (-1) 0 0 [], .mk 11 0 (-1) (-1) (-1) 0 10 q_ElectLeadersResponseTopicPartition]
def q_ElectLeadersResponse : List F := [.mk 3 0 (-1) (-1) (-1) 0 0 [], .mk 2 1 (-1) (-1) (-1) 0 0 [], .mk 11 0 (-1) (-1) (-1) 0 10 q_ElectLeadersResponseTopic]
end Go.Proofs.YtbddchglganmdaaDoor
/-
  ElectLeadersResponse: reading.
-/
namespace Go.Proofs.YtbddchglganmdaaDoor
open Go.ChangeShapes Go.WideShapes Go.ChangeAt Go.RowKit

theorem d_ElectLeadersResponse (w : World) (x : Value) : Calls Tryd.prog 113 #[x] w fun e w' => e = .returned (.tuple #[]) ∧ w = w' := by
  go_enter Tryd.func113, Tryd.ntmps113
  go_wp2
  refine bodyPost_end (v := .tuple #[]) (by simp [results, Tryd.results113, go_sem]) rfl ?_
  exact ⟨rfl, rfl⟩
theorem d_ElectLeadersResponseTopicPartition (w : World) (x : Value) : Calls Tryd.prog 173 #[x] w fun e w' => e = .returned (.tuple #[]) ∧ w = w' := by
  go_enter Tryd.func173, Tryd.ntmps173
  go_wp2
  refine bodyPost_end (v := .tuple #[]) (by simp [results, Tryd.results173, go_sem]) rfl ?_
  exact ⟨rfl, rfl⟩
theorem d_ElectLeadersResponseTopic (w : World) (x : Value) : Calls Tryd.prog 172 #[x] w fun e w' => e = .returned (.tuple #[]) ∧ w = w' := by
  go_enter Tryd.func172, Tryd.ntmps172
  go_wp2
  refine bodyPost_end (v := .tuple #[]) (by simp [results, Tryd.results172, go_sem]) rfl ?_
  exact ⟨rfl, rfl⟩
set_option maxRecDepth 100000 in
theorem info_ElectLeadersResponseTopicPartition : (Tryd.prog.info? 188).map (fun i => (i.zero, i.size, decide (i.bytes ≤ 65536))) = some (some (.agg #[.int .i32 0, .int .i16 0, .pointer none, .map none]), 4, true) := by kernel_rfl
set_option maxRecDepth 100000 in
theorem info_ElectLeadersResponseTopic : (Tryd.prog.info? 103).map (fun i => (i.zero, i.size, decide (i.bytes ≤ 65536))) = some (some (.agg #[.string ⟨#[]⟩, .slice none 0 0, .map none]), 3, true) := by kernel_rfl
end Go.Proofs.YtbddchglganmdaaDoor
