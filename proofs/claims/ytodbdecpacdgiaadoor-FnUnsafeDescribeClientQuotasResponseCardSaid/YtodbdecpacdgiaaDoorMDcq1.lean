/-
  The fields of DescribeClientQuotasResponse, as plain lists.
-/
import Derived.Test.YtodbdecpacdgiaaDoorMB1
import Derived.Test.YtodbdecpacdgiaaDoorMB13
import Derived.Test.YtodbdecpacdgiaaDoorMB14
import Derived.Test.YtodbdecpacdgiaaDoorMB17
import Derived.Deep.CutBlock
import Derived.Deep.DeepCutAuto
namespace Go.Proofs.YtodbdecpacdgiaaDoor

def q_DescribeClientQuotasResponseEntryEntity : List F := [.mk 8 0 (-1) (-1) (-1) 0 0 [], .mk 8 0 (-1) 0 (-1) 0 0 []]
def q_DescribeClientQuotasResponseEntryValue : List F := [.mk 8 0 (-1) (-1) (-1) 0 0 [], .mk 6 0 (-1) (-1) (-1) 0 0 []]
def q_DescribeClientQuotasResponseEntry : List F := [.mk 11 0 (-1) (-1) (-1) 0 10 q_DescribeClientQuotasResponseEntryEntity, .mk 11 0 (-1) (-1) (-1) 0 10 q_DescribeClientQuotasResponseEntryValue]
def q_DescribeClientQuotasResponse : List F := [.mk 3 0 (-1) (-1) (-1) 0 0 [], .mk 2 0 (-1) (-1) (-1) 0 0 [], .mk 8 0 (-1) 0 (-1) 0 0 [], .mk 11 0 (-1) 0 (-1) 0 10 q_DescribeClientQuotasResponseEntry]
end Go.Proofs.YtodbdecpacdgiaaDoor
/-
  DescribeClientQuotasResponse: reading.
-/
namespace Go.Proofs.YtodbdecpacdgiaaDoor
open Go.ChangeShapes Go.WideShapes Go.ChangeAt Go.RowKit

set_option maxRecDepth 100000 in
theorem d_DescribeClientQuotasResponse (w : World) (x : Value) : Calls Tryd.prog 78 #[x] w fun e w' => e = .returned (.tuple #[]) ∧ w = w' := by
  go_enter Tryd.func78, Tryd.ntmps78
  go_wp2
  refine bodyPost_end (v := .tuple #[]) (by simp [results, Tryd.results78, go_sem]) rfl ?_
  exact ⟨rfl, rfl⟩
set_option maxRecDepth 100000 in
theorem d_DescribeClientQuotasResponseEntryEntity (w : World) (x : Value) : Calls Tryd.prog 126 #[x] w fun e w' => e = .returned (.tuple #[]) ∧ w = w' := by
  go_enter Tryd.func126, Tryd.ntmps126
  go_wp2
  refine bodyPost_end (v := .tuple #[]) (by simp [results, Tryd.results126, go_sem]) rfl ?_
  exact ⟨rfl, rfl⟩
set_option maxRecDepth 100000 in
theorem d_DescribeClientQuotasResponseEntryValue (w : World) (x : Value) : Calls Tryd.prog 127 #[x] w fun e w' => e = .returned (.tuple #[]) ∧ w = w' := by
  go_enter Tryd.func127, Tryd.ntmps127
  go_wp2
  refine bodyPost_end (v := .tuple #[]) (by simp [results, Tryd.results127, go_sem]) rfl ?_
  exact ⟨rfl, rfl⟩
set_option maxRecDepth 100000 in
theorem d_DescribeClientQuotasResponseEntry (w : World) (x : Value) : Calls Tryd.prog 125 #[x] w fun e w' => e = .returned (.tuple #[]) ∧ w = w' := by
  go_enter Tryd.func125, Tryd.ntmps125
  go_wp2
  refine bodyPost_end (v := .tuple #[]) (by simp [results, Tryd.results125, go_sem]) rfl ?_
  exact ⟨rfl, rfl⟩
set_option maxRecDepth 100000 in
theorem info_DescribeClientQuotasResponseEntryEntity : (Tryd.prog.info? 162).map (fun i => (i.zero, i.size, decide (i.bytes ≤ 65536))) = some (some (.agg #[.string ⟨#[]⟩, .pointer none, .map none]), 3, true) := by kernel_rfl
set_option maxRecDepth 100000 in
theorem info_DescribeClientQuotasResponseEntryValue : (Tryd.prog.info? 165).map (fun i => (i.zero, i.size, decide (i.bytes ≤ 65536))) = some (some (.agg #[.string ⟨#[]⟩, .float .f64 0, .map none]), 3, true) := by kernel_rfl
set_option maxRecDepth 100000 in
theorem info_DescribeClientQuotasResponseEntry : (Tryd.prog.info? 120).map (fun i => (i.zero, i.size, decide (i.bytes ≤ 65536))) = some (some (.agg #[.slice none 0 0, .slice none 0 0, .map none]), 3, true) := by kernel_rfl
end Go.Proofs.YtodbdecpacdgiaaDoor
