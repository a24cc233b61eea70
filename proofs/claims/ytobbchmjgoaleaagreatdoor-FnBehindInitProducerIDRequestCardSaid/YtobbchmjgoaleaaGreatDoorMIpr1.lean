/-
  The fields of InitProducerIDRequest, as plain lists.
-/
import Derived.Test.YtobbchmjgoaleaaGreatDoorMB1
import Derived.Test.YtobbchmjgoaleaaGreatDoorMB14
import Derived.Test.YtobbchmjgoaleaaGreatDoorMB17
import Derived.Deep.CutBlock
import Derived.Deep.DeepCutAuto
namespace Go.Proofs.YtobbchmjgoaleaaGreatDoor

def q_InitProducerIDRequest : List F := [.mk 8 0 (-1) 0 (-1) 0 0 [], .mk 3 0 (-1) (-1) (-1) 0 0 [], .mk 4 3 (-1) (-1) (-1) (-1) 0 [], .mk 2 3 (-1) (-1) (-1) (-1) 0 []]
end Go.Proofs.YtobbchmjgoaleaaGreatDoor
/-
  InitProducerIDRequest: reading.
-/
namespace Go.Proofs.YtobbchmjgoaleaaGreatDoor
open Go.ChangeShapes Go.WideShapes Go.ChangeAt Go.RowKit

set_option maxRecDepth 100000 in
theorem d_InitProducerIDRequest {w : World} {b : Nat} (c3 : w.cell? ⟨b, 3, none⟩ = some (.int .i64 (-1))) (f3 : w.frozen? ⟨b, 3, none⟩ = false) (c4 : w.cell? ⟨b, 4, none⟩ = some (.int .i16 (-1))) (f4 : w.frozen? ⟨b, 4, none⟩ = false) : Calls Tryz.prog 147 #[.pointer (some ⟨b, 0, none⟩)] w fun e w' => e = .returned (.tuple #[]) ∧ w = w' := by
  have e3 := setCell_self c3
  have e4 := setCell_self c4
  go_enter Tryz.func147, Tryz.ntmps147
  go_wp2
  refine bodyPost_end (v := .tuple #[]) (by simp [results, Tryz.results147, go_sem]) rfl ⟨rfl, rfl⟩
set_option maxRecDepth 100000 in
theorem ipr_default0 {w : World} {b : Nat} (hb : w.heap[b]? = some (.cells #[.int .i16 0, .pointer none, .int .i32 0, .int .i64 0, .int .i16 0, .map none] 104 (0, 0))) : Calls Tryz.prog 147 #[.pointer (some ⟨b, 0, none⟩)] w fun e w' => e = .returned (.tuple #[]) ∧ ((w.setCell ⟨b, 3, none⟩ (.int .i64 (-1))).setCell ⟨b, 4, none⟩ (.int .i16 (-1))) = w' := by
  have c3 := cellOf hb 3 _ rfl
  have f3 := freeOf hb 3
  have c4 := cellOf hb 4 _ rfl
  have f4 := freeOf hb 4
  clear hb
  go_enter Tryz.func147, Tryz.ntmps147
  go_wp2
  exact bodyPost_end (v := .tuple #[]) (by simp [results, Tryz.results147, go_sem]) rfl ⟨rfl, rfl⟩
end Go.Proofs.YtobbchmjgoaleaaGreatDoor
