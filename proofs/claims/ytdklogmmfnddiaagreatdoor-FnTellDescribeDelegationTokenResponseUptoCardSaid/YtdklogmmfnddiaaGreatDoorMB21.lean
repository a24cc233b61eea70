/-
  What the rows of one seat share: facts of the program, reckoned once.
-/
import Derived.Test.YtdklogmmfnddiaaGreatDoorChecked
import Derived.Test.YtdklogmmfnddiaaGreatDoorRows
import Derived.Test.YtdklogmmfnddiaaGreatDoorCards
import Derived.JoinedCond
import Derived.WalkSpells
import Derived.Carry
namespace Go.Proofs.YtdklogmmfnddiaaGreatDoor
open Go.ChangeShapes Go.WideShapes Go.ChangeAt Go.RowKit

theorem j_laidOut : laidOutB Tryz.prog = true := by kernel_rfl
theorem j_laid : laidOutB Tryz.pinned.checked.prog = true := j_laidOut
theorem j_rowed : mapsRowed Tryz.pinned.checked.prog = true := by kernel_rfl
theorem j_heard : Program.stopsHeard Tryz.pinned.checked.prog = true := by kernel_rfl
theorem j_enter : Program.mayEnter Tryz.pinned.checked.prog = true := by kernel_rfl
theorem j_looks : false = Program.looks Tryz.pinned.checked.prog [] := by kernel_rfl
theorem stays {H : Type} {enc : TypeId × Value → H} {t : TypeId} (hr : Tryz.prog.readableRec t = true) (hrow : t < Tryz.prog.types.size) {W W' : World} {sp : Nat → Bool} {v : Value} {d : DataW H} {ps : List MemPlace}
    (h : DataW.Trod enc Tryz.prog W 0 (fun _ => true) true t v d ps) (hb : Below W.heap.size W W') (hlt : ∀ x ∈ ps, x.block < W.heap.size) (hs : ∀ p ∈ ps, sp p.block = true) : DataW.Trod enc Tryz.prog W' 0 sp true t v d ps :=
  WideElems.Trod_stays j_laidOut hr hrow h (fun x hx => hb.same (hlt x hx)) hs
end Go.Proofs.YtdklogmmfnddiaaGreatDoor
