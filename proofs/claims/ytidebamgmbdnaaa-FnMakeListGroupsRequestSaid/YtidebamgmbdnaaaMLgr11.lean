/-
  FnMakeListGroupsRequest: what the kernel reckons of the function for its row.
-/
import Derived.Test.YtidebamgmbdnaaaMB22
namespace Go.Proofs.Ytidebamgmbdnaaa.fnMakeListGroupsRequest
open Go.ChangeShapes Go.WideShapes Go.ChangeAt Go.RowKit

theorem j_place : (Rows.fnMakeListGroupsRequestRow.inPlace == Try.pinned.checked.prog.inPlace 4) = true := by kernel_rfl
theorem j_unf : (Rows.fnMakeListGroupsRequestRow.unfollowed == Try.pinned.checked.prog.unfollowed 4) = true := by kernel_rfl
theorem j_rec : (Rows.fnMakeListGroupsRequestRow.recurses == Try.pinned.checked.prog.recurses 4) = true := by kernel_rfl
theorem j_named : (Rows.fnMakeListGroupsRequestRow.named == Try.pinned.checked.prog.varsNamed 4) = true := by kernel_rfl
theorem facts : joinedFacts Try.pinned.checked.prog 4 Try.f4 (OpenSpec.ofChange Rows.fnMakeListGroupsRequestSpec).bare Rows.fnMakeListGroupsRequestRow = true := by
  unfold joinedFacts
  rw [j_laid, j_rowed, j_place, j_unf, j_rec, j_named, j_heard, j_enter]
  kernel_rfl
end Go.Proofs.Ytidebamgmbdnaaa.fnMakeListGroupsRequest
