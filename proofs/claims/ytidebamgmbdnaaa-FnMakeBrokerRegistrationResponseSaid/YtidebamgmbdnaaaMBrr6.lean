/-
  FnMakeBrokerRegistrationResponse: what the kernel reckons of the function for its row.
-/
import Derived.Test.YtidebamgmbdnaaaMB22
namespace Go.Proofs.Ytidebamgmbdnaaa.fnMakeBrokerRegistrationResponse
open Go.ChangeShapes Go.WideShapes Go.ChangeAt Go.RowKit

theorem j_place : (Rows.fnMakeBrokerRegistrationResponseRow.inPlace == Try.pinned.checked.prog.inPlace 3) = true := by kernel_rfl
theorem j_unf : (Rows.fnMakeBrokerRegistrationResponseRow.unfollowed == Try.pinned.checked.prog.unfollowed 3) = true := by kernel_rfl
theorem j_rec : (Rows.fnMakeBrokerRegistrationResponseRow.recurses == Try.pinned.checked.prog.recurses 3) = true := by kernel_rfl
theorem j_named : (Rows.fnMakeBrokerRegistrationResponseRow.named == Try.pinned.checked.prog.varsNamed 3) = true := by kernel_rfl
theorem facts : joinedFacts Try.pinned.checked.prog 3 Try.f3 (OpenSpec.ofChange Rows.fnMakeBrokerRegistrationResponseSpec).bare Rows.fnMakeBrokerRegistrationResponseRow = true := by
  unfold joinedFacts
  rw [j_laid, j_rowed, j_place, j_unf, j_rec, j_named, j_heard, j_enter]
  kernel_rfl
end Go.Proofs.Ytidebamgmbdnaaa.fnMakeBrokerRegistrationResponse
