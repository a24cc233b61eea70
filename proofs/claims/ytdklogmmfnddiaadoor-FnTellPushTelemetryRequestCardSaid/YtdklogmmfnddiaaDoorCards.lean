/-
  DERIVED. GIVEN WITH THE SEED: THE CARDS: each row of YtdklogmmfnddiaaDoorRows.lean that lists a variable, with what it lists TIED to the program's text (the seventh form; the later family's looks); each row that meets fmt, with fmt's text TOLD by the authors' own Lean function (tested against real Go, not proved from fmt's source: count such statements apart). THE CARD IS WHAT COUNTS. Prove the row's statement (the work); the ties are given (YtdklogmmfnddiaaDoorTie.lean); close each card by the builder's one call (the guide's Derived/Test/ToyasCard.lean, 'card_holds'). Laid BY PROGRAM, IN A SANDBOX (cutbox-door.mjs). By AI agents, Wed Nov 11 2026. No macro, syntax, notation, axiom, sorry.
-/
import Derived.Test.YtdklogmmfnddiaaDoorRows
import GoSem.ClaimSeven
namespace Go.Proofs.YtdklogmmfnddiaaDoor
namespace Rows

/-- THE TIED CARD OF 'laws.FnDefaultControlledShutdownRequest'. -/
def fnDefaultControlledShutdownRequestCard : Claim7 := { stood := { row := fnDefaultControlledShutdownRequestRow, standIns := [], harness := (true, "2d3cd956901f0979093033c660d51e2aa63c00438839d494ebbd6514b72854b2"), looks := false }, kinds := [], alts := [], laidByText := true, laidKinds := [.sentinel], laidTests := true, laidLooks := .later }
def FnDefaultControlledShutdownRequestCardSaid : Prop := Claim7.holds Tryd.pinned (.plain (OpenSpec.ofChange fnDefaultControlledShutdownRequestSpec)) fnDefaultControlledShutdownRequestCard

/-- THE TIED CARD OF 'laws.FnTellPushTelemetryRequest'. -/
def fnTellPushTelemetryRequestCard : Claim7 := { stood := { row := fnTellPushTelemetryRequestRow, standIns := [], harness := (true, "2d3cd956901f0979093033c660d51e2aa63c00438839d494ebbd6514b72854b2"), looks := false }, kinds := [], alts := [], laidByText := true, laidKinds := [.sentinel], laidTests := true, laidLooks := .later }
def FnTellPushTelemetryRequestCardSaid : Prop := Claim7.holds Tryd.pinned (.plain (OpenSpec.ofChange fnTellPushTelemetryRequestSpec)) fnTellPushTelemetryRequestCard

/-- THE SECOND FORM's CARD OF 'laws.FnDefaultControlledShutdownRequest'. -/
def fnDefaultControlledShutdownRequestUptoCard : Claim7 := { stood := { row := fnDefaultControlledShutdownRequestUptoRow, standIns := [], harness := (true, "2d3cd956901f0979093033c660d51e2aa63c00438839d494ebbd6514b72854b2"), looks := false }, kinds := [], alts := [], laidByText := true, laidKinds := [.sentinel], laidTests := true, laidLooks := .later }
def FnDefaultControlledShutdownRequestUptoCardSaid : Prop := Claim7.holds Tryd.pinned (.plain (OpenSpec.upto fnDefaultControlledShutdownRequestSpec)) fnDefaultControlledShutdownRequestUptoCard

/-- THE SECOND FORM's CARD OF 'laws.FnTellPushTelemetryRequest'. -/
def fnTellPushTelemetryRequestUptoCard : Claim7 := { stood := { row := fnTellPushTelemetryRequestUptoRow, standIns := [], harness := (true, "2d3cd956901f0979093033c660d51e2aa63c00438839d494ebbd6514b72854b2"), looks := false }, kinds := [], alts := [], laidByText := true, laidKinds := [.sentinel], laidTests := true, laidLooks := .later }
def FnTellPushTelemetryRequestUptoCardSaid : Prop := Claim7.holds Tryd.pinned (.plain (OpenSpec.upto fnTellPushTelemetryRequestSpec)) fnTellPushTelemetryRequestUptoCard
end Rows
end Go.Proofs.YtdklogmmfnddiaaDoor
