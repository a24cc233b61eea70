/-
  The fields of DescribeShareGroupOffsetsRequest, as plain lists.
-/
import Derived.Test.YtobbchmjgoaleaaGreatDoorMB1
import Derived.Test.YtobbchmjgoaleaaGreatDoorMB13
import Derived.Test.YtobbchmjgoaleaaGreatDoorMB16
import Derived.Deep.CutBlock
import Derived.Deep.DeepCutAuto
namespace Go.Proofs.YtobbchmjgoaleaaGreatDoor

def q_DescribeShareGroupOffsetsRequestGroupTopic : List F := [.mk 8 0 (-1) (-1) (-1) 0 0 [], .mk 11 0 (-1) (-1) (-1) 0 3 []]
def q_DescribeShareGroupOffsetsRequestGroup : List F := [.mk 8 0 (-1) (-1) (-1) 0 0 [], .mk 11 0 (-1) 0 (-1) 0 10 q_DescribeShareGroupOffsetsRequestGroupTopic]
def q_DescribeShareGroupOffsetsRequest : List F := [.mk 11 0 (-1) (-1) (-1) 0 10 q_DescribeShareGroupOffsetsRequestGroup]
end Go.Proofs.YtobbchmjgoaleaaGreatDoor
/-
  DescribeShareGroupOffsetsRequest: reading.
-/
namespace Go.Proofs.YtobbchmjgoaleaaGreatDoor
open Go.ChangeShapes Go.WideShapes Go.ChangeAt Go.RowKit

theorem d_DescribeShareGroupOffsetsRequest (w : World) (x : Value) : Calls Tryz.prog 172 #[x] w fun e w' => e = .returned (.tuple #[]) ∧ w = w' := by
  go_enter Tryz.func172, Tryz.ntmps172
  go_wp2
  refine bodyPost_end (v := .tuple #[]) (by simp [results, Tryz.results172, go_sem]) rfl ?_
  exact ⟨rfl, rfl⟩
theorem d_DescribeShareGroupOffsetsRequestGroupTopic (w : World) (x : Value) : Calls Tryz.prog 213 #[x] w fun e w' => e = .returned (.tuple #[]) ∧ w = w' := by
  go_enter Tryz.func213, Tryz.ntmps213
  go_wp2
  refine bodyPost_end (v := .tuple #[]) (by simp [results, Tryz.results213, go_sem]) rfl ?_
  exact ⟨rfl, rfl⟩
theorem d_DescribeShareGroupOffsetsRequestGroup (w : World) (x : Value) : Calls Tryz.prog 212 #[x] w fun e w' => e = .returned (.tuple #[]) ∧ w = w' := by
  go_enter Tryz.func212, Tryz.ntmps212
  go_wp2
  refine bodyPost_end (v := .tuple #[]) (by simp [results, Tryz.results212, go_sem]) rfl ?_
  exact ⟨rfl, rfl⟩
theorem info_one3 : (Tryz.prog.info? 21).map (fun i => (i.zero, i.size, decide (i.bytes ≤ 65536))) = some (some (.int .i32 0), 1, true) := by kernel_rfl
theorem vk_one3 {W : World} {K : Nat → Prop} {p : List Value → List T → Prop} {n : Int} (h : -2147483648 ≤ n ∧ n ≤ 2147483647) : VK W K 3 (-1) p [.int .i32 n] (.mk n [] false [] []) := ⟨n, rfl, h, rfl⟩
theorem info_DescribeShareGroupOffsetsRequestGroupTopic : (Tryz.prog.info? 166).map (fun i => (i.zero, i.size, decide (i.bytes ≤ 65536))) = some (some (.agg #[.string ⟨#[]⟩, .slice none 0 0, .map none]), 3, true) := by kernel_rfl
theorem info_DescribeShareGroupOffsetsRequestGroup : (Tryz.prog.info? 162).map (fun i => (i.zero, i.size, decide (i.bytes ≤ 65536))) = some (some (.agg #[.string ⟨#[]⟩, .slice none 0 0, .map none]), 3, true) := by kernel_rfl
end Go.Proofs.YtobbchmjgoaleaaGreatDoor
