/-
  The fields of ListGroupsRequest, as plain lists.
-/
import Derived.Test.YtidebamgmbdnaaaMB1
namespace Go.Proofs.Ytidebamgmbdnaaa

def q_ListGroupsRequest : List F := [.mk 11 4 (-1) (-1) (-1) 0 8 [], .mk 11 5 (-1) (-1) (-1) 0 8 []]
end Go.Proofs.Ytidebamgmbdnaaa
