/-
  FnBehindSASLHandshakeRequest: what the kernel reckons of the program for its card.
-/
import Derived.Test.YtbdlilalihgdeaaDoorMB18
import Derived.SevenTiedAt
namespace Go.Proofs.YtbdlilalihgdeaaDoor.fnBehindSASLHandshakeRequest
open Go.ChangeShapes Go.WideShapes Go.ChangeAt Go.RowKit

theorem j_main : Program.mainIs Tryd.pinned.checked.prog = some (Rows.fnBehindSASLHandshakeRequestCard.stood.harness.1, Rows.fnBehindSASLHandshakeRequestCard.stood.harness.2.toList) := by kernel_rfl
theorem j_goes : false = Rows.fnBehindSASLHandshakeRequestRow.goesBy Tryd.pinned.checked.prog := by kernel_rfl
end Go.Proofs.YtbdlilalihgdeaaDoor.fnBehindSASLHandshakeRequest
