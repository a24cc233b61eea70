/-
  FnTellDescribeDelegationTokenResponse: what the kernel reckons of the function for its row.
-/
import Derived.Test.YtdklogmmfnddiaaGreatDoorMB21
namespace Go.Proofs.YtdklogmmfnddiaaGreatDoor.fnTellDescribeDelegationTokenResponse
open Go.ChangeShapes Go.WideShapes Go.ChangeAt Go.RowKit

theorem j_place : (Rows.fnTellDescribeDelegationTokenResponseUptoRow.inPlace == Tryz.pinned.checked.prog.inPlace 5) = true := by kernel_rfl
theorem j_unf : (Rows.fnTellDescribeDelegationTokenResponseUptoRow.unfollowed == Tryz.pinned.checked.prog.unfollowed 5) = true := by kernel_rfl
theorem j_rec : (Rows.fnTellDescribeDelegationTokenResponseUptoRow.recurses == Tryz.pinned.checked.prog.recurses 5) = true := by kernel_rfl
theorem j_named : (Rows.fnTellDescribeDelegationTokenResponseUptoRow.named == Tryz.pinned.checked.prog.varsNamed 5) = true := by kernel_rfl
theorem facts : joinedFacts Tryz.pinned.checked.prog 5 Tryz.f5 (Rows.OpenSpec.upto Rows.fnTellDescribeDelegationTokenResponseSpec).bare Rows.fnTellDescribeDelegationTokenResponseUptoRow = true := by
  unfold joinedFacts
  rw [j_laid, j_rowed, j_place, j_unf, j_rec, j_named, j_heard, j_enter]
  kernel_rfl
end Go.Proofs.YtdklogmmfnddiaaGreatDoor.fnTellDescribeDelegationTokenResponse
