/-
  The fields of DeleteACLsRequest, as plain lists.
-/
import Derived.Test.YtbdlilalihgdeaaGreatDoorMB1
import Derived.Test.YtbdlilalihgdeaaGreatDoorMB13
import Derived.Test.YtbdlilalihgdeaaGreatDoorMB16
import Derived.Deep.CutBlock
import Derived.Deep.DeepCutAuto
namespace Go.Proofs.YtbdlilalihgdeaaGreatDoor

def q_DeleteACLsRequestFilter : List F := [.mk 1 0 (-1) (-1) (-1) 0 0 [], .mk 8 0 (-1) 0 (-1) 0 0 [], .mk 1 1 (-1) (-1) (-1) 3 0 [], .mk 8 0 (-1) 0 (-1) 0 0 [], .mk 8 0 (-1) 0 (-1) 0 0 [], .mk 1 0 (-1) (-1) (-1) 0 0 [], .mk 1 0 (-1) (-1) (-1) 0 0 []]
def q_DeleteACLsRequest : List F := [.mk 11 0 (-1) (-1) (-1) 0 10 q_DeleteACLsRequestFilter]
end Go.Proofs.YtbdlilalihgdeaaGreatDoor
/-
  DeleteACLsRequest: reading.
-/
namespace Go.Proofs.YtbdlilalihgdeaaGreatDoor
open Go.ChangeShapes Go.WideShapes Go.ChangeAt Go.RowKit

set_option maxRecDepth 100000 in
theorem d_DeleteACLsRequestFilter {w : World} {b o : Nat} (c2 : w.cell? ⟨b, o + 2, none⟩ = some (.int .i8 0)) (f2 : w.frozen? ⟨b, o + 2, none⟩ = false) : Calls Tryz.prog 184 #[.pointer (some ⟨b, o, none⟩)] w fun e w' => e = .returned (.tuple #[]) ∧ (w.setCell ⟨b, o + 2, none⟩ (.int .i8 3)) = w' := by
  go_enter Tryz.func184, Tryz.ntmps184
  go_wp2
  exact bodyPost_end (v := .tuple #[]) (by simp [results, Tryz.results184, go_sem]) rfl ⟨rfl, rfl⟩
theorem d_DeleteACLsRequest (w : World) (x : Value) : Calls Tryz.prog 128 #[x] w fun e w' => e = .returned (.tuple #[]) ∧ w = w' := by
  go_enter Tryz.func128, Tryz.ntmps128
  go_wp2
  refine bodyPost_end (v := .tuple #[]) (by simp [results, Tryz.results128, go_sem]) rfl ?_
  exact ⟨rfl, rfl⟩
theorem info_DeleteACLsRequestFilter : (Tryz.prog.info? 123).map (fun i => (i.zero, i.size, decide (i.bytes ≤ 65536))) = some (some (.agg #[.int .i8 0, .pointer none, .int .i8 0, .pointer none, .pointer none, .int .i8 0, .int .i8 0, .map none]), 8, true) := by kernel_rfl
end Go.Proofs.YtbdlilalihgdeaaGreatDoor
