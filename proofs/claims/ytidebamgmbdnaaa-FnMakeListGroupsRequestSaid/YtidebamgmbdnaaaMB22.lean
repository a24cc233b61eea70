/-
  What the rows of one seat without cards share: facts of the program, reckoned once.
-/
import Derived.Test.YtidebamgmbdnaaaChecked
import Derived.Test.YtidebamgmbdnaaaRows
import Derived.JoinedCond
import Derived.WalkSpells
import Derived.Carry
namespace Go.Proofs.Ytidebamgmbdnaaa
open Go.ChangeShapes Go.WideShapes Go.ChangeAt Go.RowKit

theorem j_laidOut : laidOutB Try.prog = true := by kernel_rfl
theorem j_laid : laidOutB Try.pinned.checked.prog = true := j_laidOut
theorem j_rowed : mapsRowed Try.pinned.checked.prog = true := by kernel_rfl
theorem j_heard : Program.stopsHeard Try.pinned.checked.prog = true := by kernel_rfl
theorem j_enter : Program.mayEnter Try.pinned.checked.prog = true := by kernel_rfl
theorem stays {H : Type} {enc : TypeId × Value → H} {t : TypeId} (hr : Try.prog.readableRec t = true) (hrow : t < Try.prog.types.size) {W W' : World} {sp : Nat → Bool} {v : Value} {d : DataW H} {ps : List MemPlace}
    (h : DataW.Trod enc Try.prog W 0 (fun _ => true) true t v d ps) (hb : Below W.heap.size W W') (hlt : ∀ x ∈ ps, x.block < W.heap.size) (hs : ∀ p ∈ ps, sp p.block = true) : DataW.Trod enc Try.prog W' 0 sp true t v d ps :=
  WideElems.Trod_stays j_laidOut hr hrow h (fun x hx => hb.same (hlt x hx)) hs
end Go.Proofs.Ytidebamgmbdnaaa
