/-
  The fields of ControlledShutdownRequest, as plain lists.
-/
import Derived.Test.YtdklogmmfnddiaaDoorMB1
import Derived.Test.YtdklogmmfnddiaaDoorMB13
import Derived.Test.YtdklogmmfnddiaaDoorMB18
import Derived.Deep.CutBlock
import Derived.Deep.DeepCutAuto
namespace Go.Proofs.YtdklogmmfnddiaaDoor

def q_ControlledShutdownRequest : List F := [.mk 3 0 (-1) (-1) (-1) 0 0 [], .mk 4 2 (-1) (-1) (-1) (-1) 0 []]
end Go.Proofs.YtdklogmmfnddiaaDoor
/-
  ControlledShutdownRequest: reading.
-/
namespace Go.Proofs.YtdklogmmfnddiaaDoor
open Go.ChangeShapes Go.WideShapes Go.ChangeAt Go.RowKit

set_option maxRecDepth 100000 in
theorem d_ControlledShutdownRequest {w : World} {b : Nat} (c2 : w.cell? ⟨b, 2, none⟩ = some (.int .i64 (-1))) (f2 : w.frozen? ⟨b, 2, none⟩ = false) : Calls Tryd.prog 23 #[.pointer (some ⟨b, 0, none⟩)] w fun e w' => e = .returned (.tuple #[]) ∧ w = w' := by
  have e2 := setCell_self c2
  go_enter Tryd.func23, Tryd.ntmps23
  go_wp2
  refine bodyPost_end (v := .tuple #[]) (by simp [results, Tryd.results23, go_sem]) rfl ⟨rfl, rfl⟩
set_option maxRecDepth 100000 in
theorem csd_default0 {w : World} {b : Nat} (hb : w.heap[b]? = some (.cells #[.int .i16 0, .int .i32 0, .int .i64 0, .map none] 78 (0, 0))) : Calls Tryd.prog 23 #[.pointer (some ⟨b, 0, none⟩)] w fun e w' => e = .returned (.tuple #[]) ∧ (w.setCell ⟨b, 2, none⟩ (.int .i64 (-1))) = w' := by
  have c2 := cellOf hb 2 _ rfl
  have f2 := freeOf hb 2
  clear hb
  go_enter Tryd.func23, Tryd.ntmps23
  go_wp2
  exact bodyPost_end (v := .tuple #[]) (by simp [results, Tryd.results23, go_sem]) rfl ⟨rfl, rfl⟩
end Go.Proofs.YtdklogmmfnddiaaDoor
