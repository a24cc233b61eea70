/-
  The fields of DescribeLogDirsRequest, as plain lists.
-/
import Derived.Test.YtbddchglganmdaaDoorMB1
import Derived.Test.YtbddchglganmdaaDoorMB11
import Derived.Test.YtbddchglganmdaaDoorMB15
import Derived.Deep.CutBlock
import Derived.Deep.DeepCutAuto
namespace Go.Proofs.YtbddchglganmdaaDoor

def q_DescribeLogDirsRequestTopic : List F := [.mk 8 0 (-1) (-1) (-1) 0 0 [], .mk 11 0 (-1) (-1) (-1) 0 3 []]
def q_DescribeLogDirsRequest : List F := [.mk 11 0 (-1) 0 (-1) 0 10 q_DescribeLogDirsRequestTopic]
end Go.Proofs.YtbddchglganmdaaDoor
/-
  DescribeLogDirsRequest: reading.
-/
namespace Go.Proofs.YtbddchglganmdaaDoor
open Go.ChangeShapes Go.WideShapes Go.ChangeAt Go.RowKit

theorem d_DescribeLogDirsRequest (w : World) (x : Value) : Calls Tryd.prog 121 #[x] w fun e w' => e = .returned (.tuple #[]) ∧ w = w' := by
  go_enter Tryd.func121, Tryd.ntmps121
  go_wp2
  refine bodyPost_end (v := .tuple #[]) (by simp [results, Tryd.results121, go_sem]) rfl ?_
  exact ⟨rfl, rfl⟩
theorem d_DescribeLogDirsRequestTopic (w : World) (x : Value) : Calls Tryd.prog 177 #[x] w fun e w' => e = .returned (.tuple #[]) ∧ w = w' := by
  go_enter Tryd.func177, Tryd.ntmps177
  go_wp2
  refine bodyPost_end (v := .tuple #[]) (by simp [results, Tryd.results177, go_sem]) rfl ?_
  exact ⟨rfl, rfl⟩
theorem info_one3 : (Tryd.prog.info? 21).map (fun i => (i.zero, i.size, decide (i.bytes ≤ 65536))) = some (some (.int .i32 0), 1, true) := by kernel_rfl
theorem vk_one3 {W : World} {K : Nat → Prop} {p : List Value → List T → Prop} {n : Int} (h : -2147483648 ≤ n ∧ n ≤ 2147483647) : VK W K 3 (-1) p [.int .i32 n] (.mk n [] false [] []) := ⟨n, rfl, h, rfl⟩
set_option maxRecDepth 100000 in
theorem info_DescribeLogDirsRequestTopic : (Tryd.prog.info? 115).map (fun i => (i.zero, i.size, decide (i.bytes ≤ 65536))) = some (some (.agg #[.string ⟨#[]⟩, .slice none 0 0, .map none]), 3, true) := by kernel_rfl
end Go.Proofs.YtbddchglganmdaaDoor
