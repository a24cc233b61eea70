/-
  The fields of RemoveRaftVoterRequest, as plain lists.
-/
import Derived.Test.YtbddchglganmdaaDoorMB1
import Derived.Test.YtbddchglganmdaaDoorMB11
import Derived.Test.YtbddchglganmdaaDoorMB15
import Derived.Deep.CutBlock
import Derived.Deep.DeepCutAuto
namespace Go.Proofs.YtbddchglganmdaaDoor

def q_RemoveRaftVoterRequest : List F := [.mk 8 0 (-1) 0 (-1) 0 0 [], .mk 3 0 (-1) (-1) (-1) 0 0 [], .mk 7 0 (-1) (-1) (-1) 0 0 []]
end Go.Proofs.YtbddchglganmdaaDoor
/-
  RemoveRaftVoterRequest: reading.
-/
namespace Go.Proofs.YtbddchglganmdaaDoor
open Go.ChangeShapes Go.WideShapes Go.ChangeAt Go.RowKit

theorem d_RemoveRaftVoterRequest (w : World) (x : Value) : Calls Tryd.prog 117 #[x] w fun e w' => e = .returned (.tuple #[]) ∧ w = w' := by
  go_enter Tryd.func117, Tryd.ntmps117
  go_wp2
  refine bodyPost_end (v := .tuple #[]) (by simp [results, Tryd.results117, go_sem]) rfl ?_
  exact ⟨rfl, rfl⟩
end Go.Proofs.YtbddchglganmdaaDoor
