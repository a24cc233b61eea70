/-
  The fields of AlterClientQuotasRequest, as plain lists.
-/
import Derived.Test.YtodbdecpacdgiaaDoorMB1
import Derived.Test.YtodbdecpacdgiaaDoorMB13
import Derived.Test.YtodbdecpacdgiaaDoorMB14
import Derived.Test.YtodbdecpacdgiaaDoorMB17
import Derived.Deep.CutBlock
import Derived.Deep.DeepCutAuto
namespace Go.Proofs.YtodbdecpacdgiaaDoor

def q_AlterClientQuotasRequestEntryEntity : List F := [.mk 8 0 (-1) (-1) (-1) 0 0 [], .mk 8 0 (-1) 0 (-1) 0 0 []]
def q_AlterClientQuotasRequestEntryOp : List F := [.mk 8 0 (-1) (-1) (-1) 0 0 [], .mk 6 0 (-1) (-1) (-1) 0 0 [], .mk 0 0 (-1) (-1) (-1) 0 0 []]
def q_AlterClientQuotasRequestEntry : List F := [.mk 11 0 (-1) (-1) (-1) 0 10 q_AlterClientQuotasRequestEntryEntity, .mk 11 0 (-1) (-1) (-1) 0 10 q_AlterClientQuotasRequestEntryOp]
def q_AlterClientQuotasRequest : List F := [.mk 11 0 (-1) (-1) (-1) 0 10 q_AlterClientQuotasRequestEntry, .mk 0 0 (-1) (-1) (-1) 0 0 []]
end Go.Proofs.YtodbdecpacdgiaaDoor
/-
  AlterClientQuotasRequest: reading.
-/
namespace Go.Proofs.YtodbdecpacdgiaaDoor
open Go.ChangeShapes Go.WideShapes Go.ChangeAt Go.RowKit

set_option maxRecDepth 100000 in
theorem d_AlterClientQuotasRequest (w : World) (x : Value) : Calls Tryd.prog 74 #[x] w fun e w' => e = .returned (.tuple #[]) ∧ w = w' := by
  go_enter Tryd.func74, Tryd.ntmps74
  go_wp2
  refine bodyPost_end (v := .tuple #[]) (by simp [results, Tryd.results74, go_sem]) rfl ?_
  exact ⟨rfl, rfl⟩
set_option maxRecDepth 100000 in
theorem d_AlterClientQuotasRequestEntryEntity (w : World) (x : Value) : Calls Tryd.prog 119 #[x] w fun e w' => e = .returned (.tuple #[]) ∧ w = w' := by
  go_enter Tryd.func119, Tryd.ntmps119
  go_wp2
  refine bodyPost_end (v := .tuple #[]) (by simp [results, Tryd.results119, go_sem]) rfl ?_
  exact ⟨rfl, rfl⟩
set_option maxRecDepth 100000 in
theorem d_AlterClientQuotasRequestEntryOp (w : World) (x : Value) : Calls Tryd.prog 120 #[x] w fun e w' => e = .returned (.tuple #[]) ∧ w = w' := by
  go_enter Tryd.func120, Tryd.ntmps120
  go_wp2
  refine bodyPost_end (v := .tuple #[]) (by simp [results, Tryd.results120, go_sem]) rfl ?_
  exact ⟨rfl, rfl⟩
set_option maxRecDepth 100000 in
theorem d_AlterClientQuotasRequestEntry (w : World) (x : Value) : Calls Tryd.prog 118 #[x] w fun e w' => e = .returned (.tuple #[]) ∧ w = w' := by
  go_enter Tryd.func118, Tryd.ntmps118
  go_wp2
  refine bodyPost_end (v := .tuple #[]) (by simp [results, Tryd.results118, go_sem]) rfl ?_
  exact ⟨rfl, rfl⟩
set_option maxRecDepth 100000 in
theorem info_AlterClientQuotasRequestEntryEntity : (Tryd.prog.info? 153).map (fun i => (i.zero, i.size, decide (i.bytes ≤ 65536))) = some (some (.agg #[.string ⟨#[]⟩, .pointer none, .map none]), 3, true) := by kernel_rfl
set_option maxRecDepth 100000 in
theorem info_AlterClientQuotasRequestEntryOp : (Tryd.prog.info? 157).map (fun i => (i.zero, i.size, decide (i.bytes ≤ 65536))) = some (some (.agg #[.string ⟨#[]⟩, .float .f64 0, .bool false, .map none]), 4, true) := by kernel_rfl
set_option maxRecDepth 100000 in
theorem info_AlterClientQuotasRequestEntry : (Tryd.prog.info? 111).map (fun i => (i.zero, i.size, decide (i.bytes ≤ 65536))) = some (some (.agg #[.slice none 0 0, .slice none 0 0, .map none]), 3, true) := by kernel_rfl
end Go.Proofs.YtodbdecpacdgiaaDoor
