/-
  The fields of AlterUserSCRAMCredentialsRequest, as plain lists.
-/
import Derived.Test.YtdklogmmfnddiaaGreatDoorMB1
import Derived.Test.YtdklogmmfnddiaaGreatDoorMB13
import Derived.Test.YtdklogmmfnddiaaGreatDoorMB14
import Derived.Test.YtdklogmmfnddiaaGreatDoorMB18
import Derived.Deep.CutBlock
import Derived.Deep.DeepCutAuto
namespace Go.Proofs.YtdklogmmfnddiaaGreatDoor

def q_AlterUserSCRAMCredentialsRequestDeletion : List F := [.mk 8 0 (-1) (-1) (-1) 0 0 [], .mk 1 0 (-1) (-1) (-1) 0 0 []]
def q_AlterUserSCRAMCredentialsRequestUpsertion : List F := [.mk 8 0 (-1) (-1) (-1) 0 0 [], .mk 1 0 (-1) (-1) (-1) 0 0 [], .mk 3 0 (-1) (-1) (-1) 0 0 [], .mk 9 0 (-1) (-1) (-1) 0 0 [], .mk 9 0 (-1) (-1) (-1) 0 0 []]
def q_AlterUserSCRAMCredentialsRequest : List F := [.mk 11 0 (-1) (-1) (-1) 0 10 q_AlterUserSCRAMCredentialsRequestDeletion, .mk 11 0 (-1) (-1) (-1) 0 10 q_AlterUserSCRAMCredentialsRequestUpsertion]
end Go.Proofs.YtdklogmmfnddiaaGreatDoor
/-
  AlterUserSCRAMCredentialsRequest: reading.
-/
namespace Go.Proofs.YtdklogmmfnddiaaGreatDoor
open Go.ChangeShapes Go.WideShapes Go.ChangeAt Go.RowKit

set_option maxRecDepth 100000 in
theorem d_AlterUserSCRAMCredentialsRequest (w : World) (x : Value) : Calls Tryz.prog 66 #[x] w fun e w' => e = .returned (.tuple #[]) ∧ w = w' := by
  go_enter Tryz.func66, Tryz.ntmps66
  go_wp2
  refine bodyPost_end (v := .tuple #[]) (by simp [results, Tryz.results66, go_sem]) rfl ?_
  exact ⟨rfl, rfl⟩
set_option maxRecDepth 100000 in
theorem d_AlterUserSCRAMCredentialsRequestDeletion (w : World) (x : Value) : Calls Tryz.prog 93 #[x] w fun e w' => e = .returned (.tuple #[]) ∧ w = w' := by
  go_enter Tryz.func93, Tryz.ntmps93
  go_wp2
  refine bodyPost_end (v := .tuple #[]) (by simp [results, Tryz.results93, go_sem]) rfl ?_
  exact ⟨rfl, rfl⟩
set_option maxRecDepth 100000 in
theorem d_AlterUserSCRAMCredentialsRequestUpsertion (w : World) (x : Value) : Calls Tryz.prog 94 #[x] w fun e w' => e = .returned (.tuple #[]) ∧ w = w' := by
  go_enter Tryz.func94, Tryz.ntmps94
  go_wp2
  refine bodyPost_end (v := .tuple #[]) (by simp [results, Tryz.results94, go_sem]) rfl ?_
  exact ⟨rfl, rfl⟩
set_option maxRecDepth 100000 in
theorem info_AlterUserSCRAMCredentialsRequestDeletion : (Tryz.prog.info? 111).map (fun i => (i.zero, i.size, decide (i.bytes ≤ 65536))) = some (some (.agg #[.string ⟨#[]⟩, .int .i8 0, .map none]), 3, true) := by kernel_rfl
set_option maxRecDepth 100000 in
theorem info_AlterUserSCRAMCredentialsRequestUpsertion : (Tryz.prog.info? 115).map (fun i => (i.zero, i.size, decide (i.bytes ≤ 65536))) = some (some (.agg #[.string ⟨#[]⟩, .int .i8 0, .int .i32 0, .slice none 0 0, .slice none 0 0, .map none]), 6, true) := by kernel_rfl
end Go.Proofs.YtdklogmmfnddiaaGreatDoor
