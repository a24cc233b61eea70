/-
  FnTellDescribeDelegationTokenResponse: what the kernel reckons of the program for its card.
-/
import Derived.Test.YtdklogmmfnddiaaGreatDoorMB21
import Derived.SevenTiedAt
namespace Go.Proofs.YtdklogmmfnddiaaGreatDoor.fnTellDescribeDelegationTokenResponse
open Go.ChangeShapes Go.WideShapes Go.ChangeAt Go.RowKit

theorem j_main : Program.mainIs Tryz.pinned.checked.prog = some (Rows.fnTellDescribeDelegationTokenResponseUptoCard.stood.harness.1, Rows.fnTellDescribeDelegationTokenResponseUptoCard.stood.harness.2.toList) := by kernel_rfl
theorem j_goes : false = Rows.fnTellDescribeDelegationTokenResponseUptoRow.goesBy Tryz.pinned.checked.prog := by kernel_rfl
end Go.Proofs.YtdklogmmfnddiaaGreatDoor.fnTellDescribeDelegationTokenResponse
