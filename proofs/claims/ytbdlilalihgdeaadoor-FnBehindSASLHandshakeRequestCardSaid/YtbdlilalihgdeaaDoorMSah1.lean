/-
  The fields of SASLHandshakeRequest, as plain lists.
-/
import Derived.Test.YtbdlilalihgdeaaDoorMB1
namespace Go.Proofs.YtbdlilalihgdeaaDoor

def q_SASLHandshakeRequest : List F := [.mk 8 0 (-1) (-1) (-1) 0 0 []]
end Go.Proofs.YtbdlilalihgdeaaDoor
