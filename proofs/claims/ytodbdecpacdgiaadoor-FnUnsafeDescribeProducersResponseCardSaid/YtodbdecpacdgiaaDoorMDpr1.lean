/-
  The fields of DescribeProducersResponse, as plain lists.
-/
import Derived.Test.YtodbdecpacdgiaaDoorMB1
import Derived.Test.YtodbdecpacdgiaaDoorMB13
import Derived.Test.YtodbdecpacdgiaaDoorMB17
import Derived.Deep.CutBlock
import Derived.Deep.DeepCutAuto
namespace Go.Proofs.YtodbdecpacdgiaaDoor

def q_DescribeProducersResponseTopicPartitionActiveProducer : List F := [.mk 4 0 (-1) (-1) (-1) 0 0 [], .mk 3 0 (-1) (-1) (-1) 0 0 [], .mk 3 0 (-1) (-1) (-1) (-1) 0 [], .mk 4 0 (-1) (-1) (-1) (-1) 0 [], .mk 3 0 (-1) (-1) (-1) 0 0 [], .mk 4 0 (-1) (-1) (-1) (-1) 0 []]
def q_DescribeProducersResponseTopicPartition : List F := [.mk 3 0 (-1) (-1) (-1) 0 0 [], .mk 2 0 (-1) (-1) (-1) 0 0 [], .mk 8 0 (-1) 0 (-1) 0 0 [], .mk 11 0 (-1) (-1) (-1) 0 10 q_DescribeProducersResponseTopicPartitionActiveProducer]
def q_DescribeProducersResponseTopic : List F := [.mk 8 0 (-1) (-1) (-1) 0 0 [], .mk 11 0 (-1) (-1) (-1) 0 10 q_DescribeProducersResponseTopicPartition]
def q_DescribeProducersResponse : List F := [.mk 3 0 (-1) (-1) (-1) 0 0 [], .mk 11 0 (-1) (-1) (-1) 0 10 q_DescribeProducersResponseTopic]
end Go.Proofs.YtodbdecpacdgiaaDoor
/-
  DescribeProducersResponse: reading.
-/
namespace Go.Proofs.YtodbdecpacdgiaaDoor
open Go.ChangeShapes Go.WideShapes Go.ChangeAt Go.RowKit

set_option maxRecDepth 100000 in
theorem d_DescribeProducersResponseTopicPartitionActiveProducer {w : World} {b o : Nat} (c2 : w.cell? ⟨b, o + 2, none⟩ = some (.int .i32 0)) (f2 : w.frozen? ⟨b, o + 2, none⟩ = false) (c3 : w.cell? ⟨b, o + 3, none⟩ = some (.int .i64 0)) (f3 : w.frozen? ⟨b, o + 3, none⟩ = false) (c5 : w.cell? ⟨b, o + 5, none⟩ = some (.int .i64 0)) (f5 : w.frozen? ⟨b, o + 5, none⟩ = false) : Calls Tryd.prog 109 #[.pointer (some ⟨b, o, none⟩)] w fun e w' => e = .returned (.tuple #[]) ∧ (((w.setCell ⟨b, o + 2, none⟩ (.int .i32 (-1))).setCell ⟨b, o + 3, none⟩ (.int .i64 (-1))).setCell ⟨b, o + 5, none⟩ (.int .i64 (-1))) = w' := by
  go_enter Tryd.func109, Tryd.ntmps109
  go_wp2
  exact bodyPost_end (v := .tuple #[]) (by simp [results, Tryd.results109, go_sem]) rfl ⟨rfl, rfl⟩
set_option maxRecDepth 100000 in
theorem d_DescribeProducersResponse (w : World) (x : Value) : Calls Tryd.prog 65 #[x] w fun e w' => e = .returned (.tuple #[]) ∧ w = w' := by
  go_enter Tryd.func65, Tryd.ntmps65
  go_wp2
  refine bodyPost_end (v := .tuple #[]) (by simp [results, Tryd.results65, go_sem]) rfl ?_
  exact ⟨rfl, rfl⟩
set_option maxRecDepth 100000 in
theorem d_DescribeProducersResponseTopicPartition (w : World) (x : Value) : Calls Tryd.prog 107 #[x] w fun e w' => e = .returned (.tuple #[]) ∧ w = w' := by
  go_enter Tryd.func107, Tryd.ntmps107
  go_wp2
  refine bodyPost_end (v := .tuple #[]) (by simp [results, Tryd.results107, go_sem]) rfl ?_
  exact ⟨rfl, rfl⟩
set_option maxRecDepth 100000 in
theorem d_DescribeProducersResponseTopic (w : World) (x : Value) : Calls Tryd.prog 106 #[x] w fun e w' => e = .returned (.tuple #[]) ∧ w = w' := by
  go_enter Tryd.func106, Tryd.ntmps106
  go_wp2
  refine bodyPost_end (v := .tuple #[]) (by simp [results, Tryd.results106, go_sem]) rfl ?_
  exact ⟨rfl, rfl⟩
set_option maxRecDepth 100000 in
theorem info_DescribeProducersResponseTopicPartitionActiveProducer : (Tryd.prog.info? 146).map (fun i => (i.zero, i.size, decide (i.bytes ≤ 65536))) = some (some (.agg #[.int .i64 0, .int .i32 0, .int .i32 0, .int .i64 0, .int .i32 0, .int .i64 0, .map none]), 7, true) := by kernel_rfl
set_option maxRecDepth 100000 in
theorem info_DescribeProducersResponseTopicPartition : (Tryd.prog.info? 143).map (fun i => (i.zero, i.size, decide (i.bytes ≤ 65536))) = some (some (.agg #[.int .i32 0, .int .i16 0, .pointer none, .slice none 0 0, .map none]), 5, true) := by kernel_rfl
set_option maxRecDepth 100000 in
theorem info_DescribeProducersResponseTopic : (Tryd.prog.info? 94).map (fun i => (i.zero, i.size, decide (i.bytes ≤ 65536))) = some (some (.agg #[.string ⟨#[]⟩, .slice none 0 0, .map none]), 3, true) := by kernel_rfl
end Go.Proofs.YtodbdecpacdgiaaDoor
