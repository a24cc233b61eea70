/-
  The fields of AlterConfigsResponse, as plain lists.
-/
import Derived.Test.YtbddchglganmdaaDoorMB1
import Derived.Test.YtbddchglganmdaaDoorMB11
import Derived.Test.YtbddchglganmdaaDoorMB15
import Derived.Deep.CutBlock
import Derived.Deep.DeepCutAuto
namespace Go.Proofs.YtbddchglganmdaaDoor

def q_AlterConfigsResponseResource : List F := [.mk 2 0 (-1) (-1) (-1) 0 0 [], .mk 8 0 (-1) 0 (-1) 0 0 [], .mk 1 0 (-1) (-1) (-1) 0 0 [], .mk 8 0 (-1) (-1) (-1) 0 0 []]
def q_AlterConfigsResponse : List F := [.mk 3 0 (-1) (-1) (-1) 0 0 [], .mk 11 0 (-1) (-1) (-1) 0 10 q_AlterConfigsResponseResource]
end Go.Proofs.YtbddchglganmdaaDoor
/-
  AlterConfigsResponse: reading.
-/
namespace Go.Proofs.YtbddchglganmdaaDoor
open Go.ChangeShapes Go.WideShapes Go.ChangeAt Go.RowKit

theorem d_AlterConfigsResponse (w : World) (x : Value) : Calls Tryd.prog 107 #[x] w fun e w' => e = .returned (.tuple #[]) ∧ w = w' := by
  go_enter Tryd.func107, Tryd.ntmps107
  go_wp2
  refine bodyPost_end (v := .tuple #[]) (by simp [results, Tryd.results107, go_sem]) rfl ?_
  exact ⟨rfl, rfl⟩
theorem d_AlterConfigsResponseResource (w : World) (x : Value) : Calls Tryd.prog 157 #[x] w fun e w' => e = .returned (.tuple #[]) ∧ w = w' := by
  go_enter Tryd.func157, Tryd.ntmps157
  go_wp2
  refine bodyPost_end (v := .tuple #[]) (by simp [results, Tryd.results157, go_sem]) rfl ?_
  exact ⟨rfl, rfl⟩
set_option maxRecDepth 100000 in
theorem info_AlterConfigsResponseResource : (Tryd.prog.info? 92).map (fun i => (i.zero, i.size, decide (i.bytes ≤ 65536))) = some (some (.agg #[.int .i16 0, .pointer none, .int .i8 0, .string ⟨#[]⟩, .map none]), 5, true) := by kernel_rfl
end Go.Proofs.YtbddchglganmdaaDoor
