/-
  FnUnsafeRemoveRaftVoterRequest: what the kernel reckons of the program for its card.
-/
import Derived.Test.YtbddchglganmdaaDoorMB17
import Derived.SevenTiedAt
namespace Go.Proofs.YtbddchglganmdaaDoor.fnUnsafeRemoveRaftVoterRequest
open Go.ChangeShapes Go.WideShapes Go.ChangeAt Go.RowKit

theorem j_main : Program.mainIs Tryd.pinned.checked.prog = some (Rows.fnUnsafeRemoveRaftVoterRequestCard.stood.harness.1, Rows.fnUnsafeRemoveRaftVoterRequestCard.stood.harness.2.toList) := by kernel_rfl
theorem j_goes : false = Rows.fnUnsafeRemoveRaftVoterRequestRow.goesBy Tryd.pinned.checked.prog := by kernel_rfl
end Go.Proofs.YtbddchglganmdaaDoor.fnUnsafeRemoveRaftVoterRequest
