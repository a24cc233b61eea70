/-
  The fields of BrokerRegistrationResponse, as plain lists.
-/
import Derived.Test.YtidebamgmbdnaaaMB1
namespace Go.Proofs.Ytidebamgmbdnaaa

def q_BrokerRegistrationResponse : List F := [.mk 3 0 (-1) (-1) (-1) 0 0 [], .mk 2 0 (-1) (-1) (-1) 0 0 [], .mk 4 0 (-1) (-1) (-1) (-1) 0 []]
end Go.Proofs.Ytidebamgmbdnaaa
