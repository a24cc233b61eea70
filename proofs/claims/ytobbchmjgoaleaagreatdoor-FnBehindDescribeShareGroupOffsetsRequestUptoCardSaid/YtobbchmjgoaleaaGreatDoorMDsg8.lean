/-
  FnBehindDescribeShareGroupOffsetsRequest: what the kernel reckons of the program for its card.
-/
import Derived.Test.YtobbchmjgoaleaaGreatDoorMB18
import Derived.SevenTiedAt
namespace Go.Proofs.YtobbchmjgoaleaaGreatDoor.fnBehindDescribeShareGroupOffsetsRequest
open Go.ChangeShapes Go.WideShapes Go.ChangeAt Go.RowKit

theorem j_main : Program.mainIs Tryz.pinned.checked.prog = some (Rows.fnBehindDescribeShareGroupOffsetsRequestUptoCard.stood.harness.1, Rows.fnBehindDescribeShareGroupOffsetsRequestUptoCard.stood.harness.2.toList) := by kernel_rfl
theorem j_goes : false = Rows.fnBehindDescribeShareGroupOffsetsRequestUptoRow.goesBy Tryz.pinned.checked.prog := by kernel_rfl
end Go.Proofs.YtobbchmjgoaleaaGreatDoor.fnBehindDescribeShareGroupOffsetsRequest
