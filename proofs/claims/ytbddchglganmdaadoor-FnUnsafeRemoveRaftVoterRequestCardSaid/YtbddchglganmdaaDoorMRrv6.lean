/-
  FnUnsafeRemoveRaftVoterRequest: what the kernel reckons of the function for its row.
-/
import Derived.Test.YtbddchglganmdaaDoorMB17
namespace Go.Proofs.YtbddchglganmdaaDoor.fnUnsafeRemoveRaftVoterRequest
open Go.ChangeShapes Go.WideShapes Go.ChangeAt Go.RowKit

theorem j_place : (Rows.fnUnsafeRemoveRaftVoterRequestRow.inPlace == Tryd.pinned.checked.prog.inPlace 5) = true := by kernel_rfl
theorem j_unf : (Rows.fnUnsafeRemoveRaftVoterRequestRow.unfollowed == Tryd.pinned.checked.prog.unfollowed 5) = true := by kernel_rfl
theorem j_rec : (Rows.fnUnsafeRemoveRaftVoterRequestRow.recurses == Tryd.pinned.checked.prog.recurses 5) = true := by kernel_rfl
theorem j_named : (Rows.fnUnsafeRemoveRaftVoterRequestRow.named == Tryd.pinned.checked.prog.varsNamed 5) = true := by kernel_rfl
theorem facts : joinedFacts Tryd.pinned.checked.prog 5 Tryd.f5 (OpenSpec.ofChange Rows.fnUnsafeRemoveRaftVoterRequestSpec).bare Rows.fnUnsafeRemoveRaftVoterRequestRow = true := by
  unfold joinedFacts
  rw [j_laid, j_rowed, j_place, j_unf, j_rec, j_named, j_heard, j_enter]
  kernel_rfl
end Go.Proofs.YtbddchglganmdaaDoor.fnUnsafeRemoveRaftVoterRequest
