/-
  The fields of StreamsGroupDescribeRequest, as plain lists.
-/
import Derived.Test.YtobbchmjgoaleaaGreatDoorMB1
import Derived.Test.YtobbchmjgoaleaaGreatDoorMB13
import Derived.Test.YtobbchmjgoaleaaGreatDoorMB16
import Derived.Deep.CutBlock
import Derived.Deep.DeepCutAuto
namespace Go.Proofs.YtobbchmjgoaleaaGreatDoor

def q_StreamsGroupDescribeRequest : List F := [.mk 11 0 (-1) (-1) (-1) 0 8 [], .mk 0 0 (-1) (-1) (-1) 0 0 [], .mk 0 1 (-1) (-1) (-1) 0 0 []]
end Go.Proofs.YtobbchmjgoaleaaGreatDoor
/-
  StreamsGroupDescribeRequest: reading.
-/
namespace Go.Proofs.YtobbchmjgoaleaaGreatDoor
open Go.ChangeShapes Go.WideShapes Go.ChangeAt Go.RowKit

theorem d_StreamsGroupDescribeRequest (w : World) (x : Value) : Calls Tryz.prog 157 #[x] w fun e w' => e = .returned (.tuple #[]) ∧ w = w' := by
  go_enter Tryz.func157, Tryz.ntmps157
  go_wp2
  refine bodyPost_end (v := .tuple #[]) (by simp [results, Tryz.results157, go_sem]) rfl ?_
  exact ⟨rfl, rfl⟩
theorem info_one8 : (Tryz.prog.info? 9).map (fun i => (i.zero, i.size, decide (i.bytes ≤ 65536))) = some (some (.string ⟨#[]⟩), 1, true) := by kernel_rfl
theorem vk_one8 {W : World} {K : Nat → Prop} {p : List Value → List T → Prop} {x : Bs} : VK W K 8 (-1) p [.string ⟨x.toArray⟩] (.mk 0 x false [] []) := by
  simp only [VK]
  rw [if_neg (by decide), if_neg (by decide), if_neg (by decide), if_neg (by decide), if_neg (by decide), if_neg (by decide), if_neg (by decide), if_pos True.intro, if_neg (by omega)]
  exact ⟨x, rfl, rfl⟩
end Go.Proofs.YtobbchmjgoaleaaGreatDoor
