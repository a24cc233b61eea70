/-
  The fields of MetadataRequest, as plain lists.
-/
import Derived.Test.YtalogafpnfnohaaGreatDoorMB1
import Derived.Test.YtalogafpnfnohaaGreatDoorMB13
import Derived.Test.YtalogafpnfnohaaGreatDoorMB16
import Derived.Deep.CutBlock
import Derived.Deep.DeepCutAuto
namespace Go.Proofs.YtalogafpnfnohaaGreatDoor

def q_MetadataRequestTopic : List F := [.mk 7 10 (-1) (-1) (-1) 0 0 [], .mk 8 0 (-1) 10 (-1) 0 0 []]
def q_MetadataRequest : List F := [.mk 11 0 (-1) 1 (-1) 0 10 q_MetadataRequestTopic, .mk 0 4 (-1) (-1) (-1) 0 0 [], .mk 0 8 10 (-1) (-1) 0 0 [], .mk 0 8 (-1) (-1) (-1) 0 0 []]
end Go.Proofs.YtalogafpnfnohaaGreatDoor
/-
  MetadataRequest: reading.
-/
namespace Go.Proofs.YtalogafpnfnohaaGreatDoor
open Go.ChangeShapes Go.WideShapes Go.ChangeAt Go.RowKit

theorem d_MetadataRequest (w : World) (x : Value) : Calls Tryz.prog 130 #[x] w fun e w' => e = .returned (.tuple #[]) ∧ w = w' := by
  go_enter Tryz.func130, Tryz.ntmps130
  go_wp2
  refine bodyPost_end (v := .tuple #[]) (by simp [results, Tryz.results130, go_sem]) rfl ?_
  exact ⟨rfl, rfl⟩
theorem d_MetadataRequestTopic (w : World) (x : Value) : Calls Tryz.prog 190 #[x] w fun e w' => e = .returned (.tuple #[]) ∧ w = w' := by
  go_enter Tryz.func190, Tryz.ntmps190
  go_wp2
  refine bodyPost_end (v := .tuple #[]) (by simp [results, Tryz.results190, go_sem]) rfl ?_
  exact ⟨rfl, rfl⟩
theorem info_MetadataRequestTopic : (Tryz.prog.info? 125).map (fun i => (i.zero, i.size, decide (i.bytes ≤ 65536))) = some (some (.agg #[.int .u8 0, .int .u8 0, .int .u8 0, .int .u8 0, .int .u8 0, .int .u8 0, .int .u8 0, .int .u8 0, .int .u8 0, .int .u8 0, .int .u8 0, .int .u8 0, .int .u8 0, .int .u8 0, .int .u8 0, .int .u8 0, .pointer none, .map none]), 18, true) := by kernel_rfl
end Go.Proofs.YtalogafpnfnohaaGreatDoor
