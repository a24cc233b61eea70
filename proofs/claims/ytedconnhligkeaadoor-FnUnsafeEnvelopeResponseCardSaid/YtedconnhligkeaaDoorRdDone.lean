/-
  Reader.Complete.
-/
import Derived.Test.YtedconnhligkeaaDoorRead
namespace Go.Proofs.YtedconnhligkeaaDoor
open Go.ChangeShapes Go.WideShapes Go.ChangeAt Go.RowKit

/-- the package's errors lie where they were laid -/
def Gl (w : World) (p : Addr) : Prop := w.cell? ⟨1, 0, none⟩ = some (.iface 122 (.pointer (some p)))
theorem Gl.keep {A : List Nat} {w w' : World} {p : Addr} (h : Gl w p) (hk : Keep A w w') (hA : 1 ∉ A) : Gl w' p :=
  (hk.cell (World.block_lt_of_cell? w _ h) hA).trans h
/-- what a reading answers -/
def errV (p : Addr) (bad : Bool) : Value := if bad then .iface 122 (.pointer (some p)) else .nilIface
theorem errV_true (p : Addr) : errV p true = .iface 122 (.pointer (some p)) := rfl
theorem errV_false (p : Addr) : errV p false = .nilIface := rfl
set_option maxHeartbeats 400000 in
set_option maxRecDepth 100000 in
theorem complete_any {G : Nat → Prop} {b : Nat} {p : Addr} {s : St} {w : World} (h : Rd w b G s) (hg : Gl w p) :
    Calls Tryd.prog 38 #[.pointer (some ⟨b, 0, none⟩)] w fun e w' => e = .returned (errV p s.2) ∧ Keep [] w w' := by
  obtain ⟨src, bad⟩ := s
  obtain ⟨v, hh, hr⟩ := h
  have c1 : w.cell? ⟨b, 1, none⟩ = some (.bool bad) := cellOf hh 1 _ rfl
  unfold Gl at hg
  go_enter Tryd.func38, Tryd.ntmps38
  cases bad
  · go_wp2
    go_ret
    exact ⟨rfl, Keep.refl _ _⟩
  · go_wp2
    go_ret
    exact ⟨rfl, Keep.refl _ _⟩
end Go.Proofs.YtedconnhligkeaaDoor
