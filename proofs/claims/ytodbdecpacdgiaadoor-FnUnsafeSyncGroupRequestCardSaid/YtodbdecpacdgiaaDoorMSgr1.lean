/-
  The fields of SyncGroupRequest, as plain lists.
-/
import Derived.Test.YtodbdecpacdgiaaDoorMB1
import Derived.Test.YtodbdecpacdgiaaDoorMB13
import Derived.Test.YtodbdecpacdgiaaDoorMB14
import Derived.Test.YtodbdecpacdgiaaDoorMB17
import Derived.Deep.CutBlock
import Derived.Deep.DeepCutAuto
namespace Go.Proofs.YtodbdecpacdgiaaDoor

def q_SyncGroupRequestGroupAssignment : List F := [.mk 8 0 (-1) (-1) (-1) 0 0 [], .mk 9 0 (-1) (-1) (-1) 0 0 []]
def q_SyncGroupRequest : List F := [.mk 8 0 (-1) (-1) (-1) 0 0 [], .mk 3 0 (-1) (-1) (-1) 0 0 [], .mk 8 0 (-1) (-1) (-1) 0 0 [], .mk 8 3 (-1) 3 (-1) 0 0 [], .mk 8 5 (-1) 5 (-1) 0 0 [], .mk 8 5 (-1) 5 (-1) 0 0 [], .mk 11 0 (-1) (-1) (-1) 0 10 q_SyncGroupRequestGroupAssignment]
end Go.Proofs.YtodbdecpacdgiaaDoor
/-
  SyncGroupRequest: reading.
-/
namespace Go.Proofs.YtodbdecpacdgiaaDoor
open Go.ChangeShapes Go.WideShapes Go.ChangeAt Go.RowKit

set_option maxRecDepth 100000 in
theorem d_SyncGroupRequest (w : World) (x : Value) : Calls Tryd.prog 69 #[x] w fun e w' => e = .returned (.tuple #[]) ∧ w = w' := by
  go_enter Tryd.func69, Tryd.ntmps69
  go_wp2
  refine bodyPost_end (v := .tuple #[]) (by simp [results, Tryd.results69, go_sem]) rfl ?_
  exact ⟨rfl, rfl⟩
set_option maxRecDepth 100000 in
theorem d_SyncGroupRequestGroupAssignment (w : World) (x : Value) : Calls Tryd.prog 113 #[x] w fun e w' => e = .returned (.tuple #[]) ∧ w = w' := by
  go_enter Tryd.func113, Tryd.ntmps113
  go_wp2
  refine bodyPost_end (v := .tuple #[]) (by simp [results, Tryd.results113, go_sem]) rfl ?_
  exact ⟨rfl, rfl⟩
set_option maxRecDepth 100000 in
theorem info_SyncGroupRequestGroupAssignment : (Tryd.prog.info? 102).map (fun i => (i.zero, i.size, decide (i.bytes ≤ 65536))) = some (some (.agg #[.string ⟨#[]⟩, .slice none 0 0, .map none]), 3, true) := by kernel_rfl
end Go.Proofs.YtodbdecpacdgiaaDoor
