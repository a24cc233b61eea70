/-
  The fields of DeleteGroupsResponse, as plain lists.
-/
import Derived.Test.YtobbchmjgoaleaaGreatDoorMB1
import Derived.Test.YtobbchmjgoaleaaGreatDoorMB13
import Derived.Test.YtobbchmjgoaleaaGreatDoorMB16
import Derived.Deep.CutBlock
import Derived.Deep.DeepCutAuto
namespace Go.Proofs.YtobbchmjgoaleaaGreatDoor

def q_DeleteGroupsResponseGroup : List F := [.mk 8 0 (-1) (-1) (-1) 0 0 [], .mk 2 0 (-1) (-1) (-1) 0 0 [], .mk 8 3 (-1) 3 (-1) 0 0 []]
def q_DeleteGroupsResponse : List F := [.mk 3 0 (-1) (-1) (-1) 0 0 [], .mk 11 0 (-1) (-1) (-1) 0 10 q_DeleteGroupsResponseGroup]
end Go.Proofs.YtobbchmjgoaleaaGreatDoor
/-
  DeleteGroupsResponse: reading.
-/
namespace Go.Proofs.YtobbchmjgoaleaaGreatDoor
open Go.ChangeShapes Go.WideShapes Go.ChangeAt Go.RowKit

theorem d_DeleteGroupsResponse (w : World) (x : Value) : Calls Tryz.prog 166 #[x] w fun e w' => e = .returned (.tuple #[]) ∧ w = w' := by
  go_enter Tryz.func166, Tryz.ntmps166
  go_wp2
  refine bodyPost_end (v := .tuple #[]) (by simp [results, Tryz.results166, go_sem]) rfl ?_
  exact ⟨rfl, rfl⟩
theorem d_DeleteGroupsResponseGroup (w : World) (x : Value) : Calls Tryz.prog 208 #[x] w fun e w' => e = .returned (.tuple #[]) ∧ w = w' := by
  go_enter Tryz.func208, Tryz.ntmps208
  go_wp2
  refine bodyPost_end (v := .tuple #[]) (by simp [results, Tryz.results208, go_sem]) rfl ?_
  exact ⟨rfl, rfl⟩
theorem info_DeleteGroupsResponseGroup : (Tryz.prog.info? 143).map (fun i => (i.zero, i.size, decide (i.bytes ≤ 65536))) = some (some (.agg #[.string ⟨#[]⟩, .int .i16 0, .pointer none, .map none]), 4, true) := by kernel_rfl
end Go.Proofs.YtobbchmjgoaleaaGreatDoor
