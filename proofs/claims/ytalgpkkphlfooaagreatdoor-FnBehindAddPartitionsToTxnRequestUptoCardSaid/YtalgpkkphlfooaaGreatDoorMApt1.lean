/-
  The fields of AddPartitionsToTxnRequest, as plain lists.
-/
import Derived.Test.YtalgpkkphlfooaaGreatDoorMB1
import Derived.Test.YtalgpkkphlfooaaGreatDoorMB13
import Derived.Test.YtalgpkkphlfooaaGreatDoorMB16
import Derived.Deep.CutBlock
import Derived.Deep.DeepCutAuto
namespace Go.Proofs.YtalgpkkphlfooaaGreatDoor

def q_AddPartitionsToTxnRequestTopic : List F := [.mk 8 0 (-1) (-1) (-1) 0 0 [], .mk 11 0 (-1) (-1) (-1) 0 3 []]
def q_AddPartitionsToTxnRequestTransactionTopic : List F := [.mk 8 0 (-1) (-1) (-1) 0 0 [], .mk 11 0 (-1) (-1) (-1) 0 3 []]
def q_AddPartitionsToTxnRequestTransaction : List F := [.mk 8 0 (-1) (-1) (-1) 0 0 [], .mk 4 0 (-1) (-1) (-1) 0 0 [], .mk 2 0 (-1) (-1) (-1) 0 0 [], .mk 0 0 (-1) (-1) (-1) 0 0 [], .mk 11 0 (-1) (-1) (-1) 0 10 q_AddPartitionsToTxnRequestTransactionTopic]
def q_AddPartitionsToTxnRequest : List F := [.mk 8 0 3 (-1) (-1) 0 0 [], .mk 4 0 3 (-1) (-1) 0 0 [], .mk 2 0 3 (-1) (-1) 0 0 [], .mk 11 0 3 (-1) (-1) 0 10 q_AddPartitionsToTxnRequestTopic, .mk 11 4 (-1) (-1) (-1) 0 10 q_AddPartitionsToTxnRequestTransaction]
end Go.Proofs.YtalgpkkphlfooaaGreatDoor
/-
  AddPartitionsToTxnRequest: reading.
-/
namespace Go.Proofs.YtalgpkkphlfooaaGreatDoor
open Go.ChangeShapes Go.WideShapes Go.ChangeAt Go.RowKit

set_option maxRecDepth 100000 in
theorem d_AddPartitionsToTxnRequest (w : World) (x : Value) : Calls Tryz.prog 84 #[x] w fun e w' => e = .returned (.tuple #[]) ∧ w = w' := by
  go_enter Tryz.func84, Tryz.ntmps84
  go_wp2
  refine bodyPost_end (v := .tuple #[]) (by simp [results, Tryz.results84, go_sem]) rfl ?_
  exact ⟨rfl, rfl⟩
set_option maxRecDepth 100000 in
theorem d_AddPartitionsToTxnRequestTopic (w : World) (x : Value) : Calls Tryz.prog 128 #[x] w fun e w' => e = .returned (.tuple #[]) ∧ w = w' := by
  go_enter Tryz.func128, Tryz.ntmps128
  go_wp2
  refine bodyPost_end (v := .tuple #[]) (by simp [results, Tryz.results128, go_sem]) rfl ?_
  exact ⟨rfl, rfl⟩
set_option maxRecDepth 100000 in
theorem d_AddPartitionsToTxnRequestTransactionTopic (w : World) (x : Value) : Calls Tryz.prog 131 #[x] w fun e w' => e = .returned (.tuple #[]) ∧ w = w' := by
  go_enter Tryz.func131, Tryz.ntmps131
  go_wp2
  refine bodyPost_end (v := .tuple #[]) (by simp [results, Tryz.results131, go_sem]) rfl ?_
  exact ⟨rfl, rfl⟩
set_option maxRecDepth 100000 in
theorem d_AddPartitionsToTxnRequestTransaction (w : World) (x : Value) : Calls Tryz.prog 129 #[x] w fun e w' => e = .returned (.tuple #[]) ∧ w = w' := by
  go_enter Tryz.func129, Tryz.ntmps129
  go_wp2
  refine bodyPost_end (v := .tuple #[]) (by simp [results, Tryz.results129, go_sem]) rfl ?_
  exact ⟨rfl, rfl⟩
theorem info_one3 : (Tryz.prog.info? 21).map (fun i => (i.zero, i.size, decide (i.bytes ≤ 65536))) = some (some (.int .i32 0), 1, true) := by kernel_rfl
theorem vk_one3 {W : World} {K : Nat → Prop} {p : List Value → List T → Prop} {n : Int} (h : -2147483648 ≤ n ∧ n ≤ 2147483647) : VK W K 3 (-1) p [.int .i32 n] (.mk n [] false [] []) := ⟨n, rfl, h, rfl⟩
set_option maxRecDepth 100000 in
theorem info_AddPartitionsToTxnRequestTopic : (Tryz.prog.info? 102).map (fun i => (i.zero, i.size, decide (i.bytes ≤ 65536))) = some (some (.agg #[.string ⟨#[]⟩, .slice none 0 0, .map none]), 3, true) := by kernel_rfl
set_option maxRecDepth 100000 in
theorem info_AddPartitionsToTxnRequestTransactionTopic : (Tryz.prog.info? 109).map (fun i => (i.zero, i.size, decide (i.bytes ≤ 65536))) = some (some (.agg #[.string ⟨#[]⟩, .slice none 0 0, .map none]), 3, true) := by kernel_rfl
set_option maxRecDepth 100000 in
theorem info_AddPartitionsToTxnRequestTransaction : (Tryz.prog.info? 106).map (fun i => (i.zero, i.size, decide (i.bytes ≤ 65536))) = some (some (.agg #[.string ⟨#[]⟩, .int .i64 0, .int .i16 0, .bool false, .slice none 0 0, .map none]), 6, true) := by kernel_rfl
end Go.Proofs.YtalgpkkphlfooaaGreatDoor
