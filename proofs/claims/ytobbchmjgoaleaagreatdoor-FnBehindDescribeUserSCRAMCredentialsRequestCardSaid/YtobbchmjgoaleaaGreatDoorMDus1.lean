/-
  The fields of DescribeUserSCRAMCredentialsRequest, as plain lists.
-/
import Derived.Test.YtobbchmjgoaleaaGreatDoorMB1
import Derived.Test.YtobbchmjgoaleaaGreatDoorMB13
import Derived.Test.YtobbchmjgoaleaaGreatDoorMB16
import Derived.Deep.CutBlock
import Derived.Deep.DeepCutAuto
namespace Go.Proofs.YtobbchmjgoaleaaGreatDoor

def q_DescribeUserSCRAMCredentialsRequestUser : List F := [.mk 8 0 (-1) (-1) (-1) 0 0 []]
def q_DescribeUserSCRAMCredentialsRequest : List F := [.mk 11 0 (-1) 0 (-1) 0 10 q_DescribeUserSCRAMCredentialsRequestUser]
end Go.Proofs.YtobbchmjgoaleaaGreatDoor
/-
  DescribeUserSCRAMCredentialsRequest: reading.
-/
namespace Go.Proofs.YtobbchmjgoaleaaGreatDoor
open Go.ChangeShapes Go.WideShapes Go.ChangeAt Go.RowKit

theorem d_DescribeUserSCRAMCredentialsRequest (w : World) (x : Value) : Calls Tryz.prog 153 #[x] w fun e w' => e = .returned (.tuple #[]) ∧ w = w' := by
  go_enter Tryz.func153, Tryz.ntmps153
  go_wp2
  refine bodyPost_end (v := .tuple #[]) (by simp [results, Tryz.results153, go_sem]) rfl ?_
  exact ⟨rfl, rfl⟩
theorem d_DescribeUserSCRAMCredentialsRequestUser (w : World) (x : Value) : Calls Tryz.prog 204 #[x] w fun e w' => e = .returned (.tuple #[]) ∧ w = w' := by
  go_enter Tryz.func204, Tryz.ntmps204
  go_wp2
  refine bodyPost_end (v := .tuple #[]) (by simp [results, Tryz.results204, go_sem]) rfl ?_
  exact ⟨rfl, rfl⟩
theorem info_DescribeUserSCRAMCredentialsRequestUser : (Tryz.prog.info? 115).map (fun i => (i.zero, i.size, decide (i.bytes ≤ 65536))) = some (some (.agg #[.string ⟨#[]⟩, .map none]), 2, true) := by kernel_rfl
end Go.Proofs.YtobbchmjgoaleaaGreatDoor
