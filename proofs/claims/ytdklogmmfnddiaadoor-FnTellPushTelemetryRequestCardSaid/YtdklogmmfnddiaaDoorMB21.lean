/-
  What the rows of one seat share: facts of the program, reckoned once.
-/
import Derived.Test.YtdklogmmfnddiaaDoorChecked
import Derived.Test.YtdklogmmfnddiaaDoorRows
import Derived.Test.YtdklogmmfnddiaaDoorCards
import Derived.JoinedCond
import Derived.WalkSpells
import Derived.Carry
namespace Go.Proofs.YtdklogmmfnddiaaDoor
open Go.ChangeShapes Go.WideShapes Go.ChangeAt Go.RowKit

theorem j_laidOut : laidOutB Tryd.prog = true := by kernel_rfl
theorem j_laid : laidOutB Tryd.pinned.checked.prog = true := j_laidOut
theorem j_rowed : mapsRowed Tryd.pinned.checked.prog = true := by kernel_rfl
theorem j_heard : Program.stopsHeard Tryd.pinned.checked.prog = true := by kernel_rfl
theorem j_enter : Program.mayEnter Tryd.pinned.checked.prog = true := by kernel_rfl
theorem j_looks : false = Program.looks Tryd.pinned.checked.prog [] := by kernel_rfl
theorem stays {H : Type} {enc : TypeId × Value → H} {t : TypeId} (hr : Tryd.prog.readableRec t = true) (hrow : t < Tryd.prog.types.size) {W W' : World} {sp : Nat → Bool} {v : Value} {d : DataW H} {ps : List MemPlace}
    (h : DataW.Trod enc Tryd.prog W 0 (fun _ => true) true t v d ps) (hb : Below W.heap.size W W') (hlt : ∀ x ∈ ps, x.block < W.heap.size) (hs : ∀ p ∈ ps, sp p.block = true) : DataW.Trod enc Tryd.prog W' 0 sp true t v d ps :=
  WideElems.Trod_stays j_laidOut hr hrow h (fun x hx => hb.same (hlt x hx)) hs
end Go.Proofs.YtdklogmmfnddiaaDoor
