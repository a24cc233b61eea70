/-
  internalReadTags.
-/
import Derived.Test.YtidebamgmbdnaaaMB10
import Derived.Test.YtidebamgmbdnaaaMB7
import Derived.Test.YtidebamgmbdnaaaMB6
namespace Go.Proofs.Ytidebamgmbdnaaa
open Go.ChangeShapes Go.WideShapes Go.ChangeAt Go.RowKit

def rdTagsN : Nat → St → List Tg → List Tg × St
  | 0, s, l => (l, s)
  | n + 1, s, l => rdTagsN n (rdSpan ((rdUv (rdUv s).2).1 : Int) (rdUv (rdUv s).2).2).2 (putK l (rdUv s).1 (rdSpan ((rdUv (rdUv s).2).1 : Int) (rdUv (rdUv s).2).2).1)
/-- the tags of a part -/
def rdTags (s : St) : List Tg × St := rdTagsN (rdUv s).1 (rdUv s).2 []

theorem World.heap_lt' {w : World} {b : Nat} {o : Obj} (h : w.heap[b]? = some o) : b < w.heap.size := (Array.getElem?_eq_some_iff.1 h).1
end Go.Proofs.Ytidebamgmbdnaaa
