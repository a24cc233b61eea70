/-
  DERIVED. GIVEN WITH THE SEED: THE CARDS: each row of YtedconnhligkeaaDoorRows.lean that lists a variable, with what it lists TIED to the program's text (the seventh form; the later family's looks); each row that meets fmt, with fmt's text TOLD by the authors' own Lean function (tested against real Go, not proved from fmt's source: count such statements apart). THE CARD IS WHAT COUNTS. Prove the row's statement (the work); the ties are given (YtedconnhligkeaaDoorTie.lean); close each card by the builder's one call (the guide's Derived/Test/ToyasCard.lean, 'card_holds'). Laid BY PROGRAM, IN A SANDBOX (cutbox-door.mjs). By AI agents, Wed Nov 11 2026. No macro, syntax, notation, axiom, sorry.
-/
import Derived.Test.YtedconnhligkeaaDoorRows
import GoSem.ClaimSeven
namespace Go.Proofs.YtedconnhligkeaaDoor
namespace Rows

/-- THE TIED CARD OF 'laws.FnUnsafeUnregisterControllerRequest'. -/
def fnUnsafeUnregisterControllerRequestCard : Claim7 := { stood := { row := fnUnsafeUnregisterControllerRequestRow, standIns := [], harness := (true, "5a5155576a0da122c613a8c8452d3d03b3c2b1319d31ef2559b4347dd10e8078"), looks := false }, kinds := [], alts := [], laidByText := true, laidKinds := [.sentinel], laidTests := true, laidLooks := .later }
def FnUnsafeUnregisterControllerRequestCardSaid : Prop := Claim7.holds Tryd.pinned (.plain (OpenSpec.ofChange fnUnsafeUnregisterControllerRequestSpec)) fnUnsafeUnregisterControllerRequestCard

/-- THE TIED CARD OF 'laws.FnUnsafeEnvelopeResponse'. -/
def fnUnsafeEnvelopeResponseCard : Claim7 := { stood := { row := fnUnsafeEnvelopeResponseRow, standIns := [], harness := (true, "5a5155576a0da122c613a8c8452d3d03b3c2b1319d31ef2559b4347dd10e8078"), looks := false }, kinds := [], alts := [], laidByText := true, laidKinds := [.sentinel], laidTests := true, laidLooks := .later }
def FnUnsafeEnvelopeResponseCardSaid : Prop := Claim7.holds Tryd.pinned (.plain (OpenSpec.ofChange fnUnsafeEnvelopeResponseSpec)) fnUnsafeEnvelopeResponseCard

/-- THE SECOND FORM's CARD OF 'laws.FnUnsafeUnregisterControllerRequest'. -/
def fnUnsafeUnregisterControllerRequestUptoCard : Claim7 := { stood := { row := fnUnsafeUnregisterControllerRequestUptoRow, standIns := [], harness := (true, "5a5155576a0da122c613a8c8452d3d03b3c2b1319d31ef2559b4347dd10e8078"), looks := false }, kinds := [], alts := [], laidByText := true, laidKinds := [.sentinel], laidTests := true, laidLooks := .later }
def FnUnsafeUnregisterControllerRequestUptoCardSaid : Prop := Claim7.holds Tryd.pinned (.plain (OpenSpec.upto fnUnsafeUnregisterControllerRequestSpec)) fnUnsafeUnregisterControllerRequestUptoCard

/-- THE SECOND FORM's CARD OF 'laws.FnUnsafeEnvelopeResponse'. -/
def fnUnsafeEnvelopeResponseUptoCard : Claim7 := { stood := { row := fnUnsafeEnvelopeResponseUptoRow, standIns := [], harness := (true, "5a5155576a0da122c613a8c8452d3d03b3c2b1319d31ef2559b4347dd10e8078"), looks := false }, kinds := [], alts := [], laidByText := true, laidKinds := [.sentinel], laidTests := true, laidLooks := .later }
def FnUnsafeEnvelopeResponseUptoCardSaid : Prop := Claim7.holds Tryd.pinned (.plain (OpenSpec.upto fnUnsafeEnvelopeResponseSpec)) fnUnsafeEnvelopeResponseUptoCard
end Rows
end Go.Proofs.YtedconnhligkeaaDoor
