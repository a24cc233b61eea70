/-
  DERIVED. GIVEN WITH THE SEED: THE CARDS: each row of YtnemimighhpcaaaDoorRows.lean that lists a variable, with what it lists TIED to the program's text (the seventh form; the later family's looks); each row that meets fmt, with fmt's text TOLD by the authors' own Lean function (tested against real Go, not proved from fmt's source: count such statements apart). THE CARD IS WHAT COUNTS. Prove the row's statement (the work); the ties are given (YtnemimighhpcaaaDoorTie.lean); close each card by the builder's one call (the guide's Derived/Test/ToyasCard.lean, 'card_holds'). Laid BY PROGRAM, IN A SANDBOX (cutbox-door.mjs). By AI agents, Wed Nov 11 2026. No macro, syntax, notation, axiom, sorry.
-/
import Derived.Test.YtnemimighhpcaaaDoorRows
import GoSem.ClaimSeven
namespace Go.Proofs.YtnemimighhpcaaaDoor
namespace Rows

/-- THE TIED CARD OF 'laws.FnBehindSASLHandshakeRequest'. -/
def fnBehindSASLHandshakeRequestCard : Claim7 := { stood := { row := fnBehindSASLHandshakeRequestRow, standIns := [], harness := (true, "1e449cf8cf76d5c26ca8a39b3a417b98a7288815972cb4f26fdaab5ac0af350d"), looks := false }, kinds := [], alts := [], laidByText := true, laidKinds := [.sentinel], laidTests := true, laidLooks := .later }
def FnBehindSASLHandshakeRequestCardSaid : Prop := Claim7.holds Tryd.pinned (.plain (OpenSpec.ofChange fnBehindSASLHandshakeRequestSpec)) fnBehindSASLHandshakeRequestCard

/-- THE TIED CARD OF 'laws.FnUnsafeGetTelemetrySubscriptionsRequest'. -/
def fnUnsafeGetTelemetrySubscriptionsRequestCard : Claim7 := { stood := { row := fnUnsafeGetTelemetrySubscriptionsRequestRow, standIns := [], harness := (true, "1e449cf8cf76d5c26ca8a39b3a417b98a7288815972cb4f26fdaab5ac0af350d"), looks := false }, kinds := [], alts := [], laidByText := true, laidKinds := [.sentinel], laidTests := true, laidLooks := .later }
def FnUnsafeGetTelemetrySubscriptionsRequestCardSaid : Prop := Claim7.holds Tryd.pinned (.plain (OpenSpec.ofChange fnUnsafeGetTelemetrySubscriptionsRequestSpec)) fnUnsafeGetTelemetrySubscriptionsRequestCard

/-- THE TIED CARD OF 'laws.FnDefaultControlledShutdownRequest'. -/
def fnDefaultControlledShutdownRequestCard : Claim7 := { stood := { row := fnDefaultControlledShutdownRequestRow, standIns := [], harness := (true, "1e449cf8cf76d5c26ca8a39b3a417b98a7288815972cb4f26fdaab5ac0af350d"), looks := false }, kinds := [], alts := [], laidByText := true, laidKinds := [.sentinel], laidTests := true, laidLooks := .later }
def FnDefaultControlledShutdownRequestCardSaid : Prop := Claim7.holds Tryd.pinned (.plain (OpenSpec.ofChange fnDefaultControlledShutdownRequestSpec)) fnDefaultControlledShutdownRequestCard

/-- THE TIED CARD OF 'laws.FnUnsafeHeartbeatResponse'. -/
def fnUnsafeHeartbeatResponseCard : Claim7 := { stood := { row := fnUnsafeHeartbeatResponseRow, standIns := [], harness := (true, "1e449cf8cf76d5c26ca8a39b3a417b98a7288815972cb4f26fdaab5ac0af350d"), looks := false }, kinds := [], alts := [], laidByText := true, laidKinds := [.sentinel], laidTests := true, laidLooks := .later }
def FnUnsafeHeartbeatResponseCardSaid : Prop := Claim7.holds Tryd.pinned (.plain (OpenSpec.ofChange fnUnsafeHeartbeatResponseSpec)) fnUnsafeHeartbeatResponseCard

/-- THE TIED CARD OF 'laws.FnUnsafeRenewDelegationTokenResponse'. -/
def fnUnsafeRenewDelegationTokenResponseCard : Claim7 := { stood := { row := fnUnsafeRenewDelegationTokenResponseRow, standIns := [], harness := (true, "1e449cf8cf76d5c26ca8a39b3a417b98a7288815972cb4f26fdaab5ac0af350d"), looks := false }, kinds := [], alts := [], laidByText := true, laidKinds := [.sentinel], laidTests := true, laidLooks := .later }
def FnUnsafeRenewDelegationTokenResponseCardSaid : Prop := Claim7.holds Tryd.pinned (.plain (OpenSpec.ofChange fnUnsafeRenewDelegationTokenResponseSpec)) fnUnsafeRenewDelegationTokenResponseCard

/-- THE TIED CARD OF 'laws.FnTellPushTelemetryRequest'. -/
def fnTellPushTelemetryRequestCard : Claim7 := { stood := { row := fnTellPushTelemetryRequestRow, standIns := [], harness := (true, "1e449cf8cf76d5c26ca8a39b3a417b98a7288815972cb4f26fdaab5ac0af350d"), looks := false }, kinds := [], alts := [], laidByText := true, laidKinds := [.sentinel], laidTests := true, laidLooks := .later }
def FnTellPushTelemetryRequestCardSaid : Prop := Claim7.holds Tryd.pinned (.plain (OpenSpec.ofChange fnTellPushTelemetryRequestSpec)) fnTellPushTelemetryRequestCard

/-- THE TIED CARD OF 'laws.FnUnsafeAddRaftVoterResponse'. -/
def fnUnsafeAddRaftVoterResponseCard : Claim7 := { stood := { row := fnUnsafeAddRaftVoterResponseRow, standIns := [], harness := (true, "1e449cf8cf76d5c26ca8a39b3a417b98a7288815972cb4f26fdaab5ac0af350d"), looks := false }, kinds := [], alts := [], laidByText := true, laidKinds := [.sentinel], laidTests := true, laidLooks := .later }
def FnUnsafeAddRaftVoterResponseCardSaid : Prop := Claim7.holds Tryd.pinned (.plain (OpenSpec.ofChange fnUnsafeAddRaftVoterResponseSpec)) fnUnsafeAddRaftVoterResponseCard

/-- THE TIED CARD OF 'laws.FnTellOffsetCommitValue'. -/
def fnTellOffsetCommitValueCard : Claim7 := { stood := { row := fnTellOffsetCommitValueRow, standIns := [], harness := (true, "1e449cf8cf76d5c26ca8a39b3a417b98a7288815972cb4f26fdaab5ac0af350d"), looks := false }, kinds := [], alts := [], laidByText := true, laidKinds := [.sentinel], laidTests := true, laidLooks := .later }
def FnTellOffsetCommitValueCardSaid : Prop := Claim7.holds Tryd.pinned (.plain (OpenSpec.ofChange fnTellOffsetCommitValueSpec)) fnTellOffsetCommitValueCard

/-- THE SECOND FORM's CARD OF 'laws.FnBehindSASLHandshakeRequest'. -/
def fnBehindSASLHandshakeRequestUptoCard : Claim7 := { stood := { row := fnBehindSASLHandshakeRequestUptoRow, standIns := [], harness := (true, "1e449cf8cf76d5c26ca8a39b3a417b98a7288815972cb4f26fdaab5ac0af350d"), looks := false }, kinds := [], alts := [], laidByText := true, laidKinds := [.sentinel], laidTests := true, laidLooks := .later }
def FnBehindSASLHandshakeRequestUptoCardSaid : Prop := Claim7.holds Tryd.pinned (.plain (OpenSpec.upto fnBehindSASLHandshakeRequestSpec)) fnBehindSASLHandshakeRequestUptoCard

/-- THE SECOND FORM's CARD OF 'laws.FnUnsafeGetTelemetrySubscriptionsRequest'. -/
def fnUnsafeGetTelemetrySubscriptionsRequestUptoCard : Claim7 := { stood := { row := fnUnsafeGetTelemetrySubscriptionsRequestUptoRow, standIns := [], harness := (true, "1e449cf8cf76d5c26ca8a39b3a417b98a7288815972cb4f26fdaab5ac0af350d"), looks := false }, kinds := [], alts := [], laidByText := true, laidKinds := [.sentinel], laidTests := true, laidLooks := .later }
def FnUnsafeGetTelemetrySubscriptionsRequestUptoCardSaid : Prop := Claim7.holds Tryd.pinned (.plain (OpenSpec.upto fnUnsafeGetTelemetrySubscriptionsRequestSpec)) fnUnsafeGetTelemetrySubscriptionsRequestUptoCard

/-- THE SECOND FORM's CARD OF 'laws.FnDefaultControlledShutdownRequest'. -/
def fnDefaultControlledShutdownRequestUptoCard : Claim7 := { stood := { row := fnDefaultControlledShutdownRequestUptoRow, standIns := [], harness := (true, "1e449cf8cf76d5c26ca8a39b3a417b98a7288815972cb4f26fdaab5ac0af350d"), looks := false }, kinds := [], alts := [], laidByText := true, laidKinds := [.sentinel], laidTests := true, laidLooks := .later }
def FnDefaultControlledShutdownRequestUptoCardSaid : Prop := Claim7.holds Tryd.pinned (.plain (OpenSpec.upto fnDefaultControlledShutdownRequestSpec)) fnDefaultControlledShutdownRequestUptoCard

/-- THE SECOND FORM's CARD OF 'laws.FnUnsafeHeartbeatResponse'. -/
def fnUnsafeHeartbeatResponseUptoCard : Claim7 := { stood := { row := fnUnsafeHeartbeatResponseUptoRow, standIns := [], harness := (true, "1e449cf8cf76d5c26ca8a39b3a417b98a7288815972cb4f26fdaab5ac0af350d"), looks := false }, kinds := [], alts := [], laidByText := true, laidKinds := [.sentinel], laidTests := true, laidLooks := .later }
def FnUnsafeHeartbeatResponseUptoCardSaid : Prop := Claim7.holds Tryd.pinned (.plain (OpenSpec.upto fnUnsafeHeartbeatResponseSpec)) fnUnsafeHeartbeatResponseUptoCard

/-- THE SECOND FORM's CARD OF 'laws.FnUnsafeRenewDelegationTokenResponse'. -/
def fnUnsafeRenewDelegationTokenResponseUptoCard : Claim7 := { stood := { row := fnUnsafeRenewDelegationTokenResponseUptoRow, standIns := [], harness := (true, "1e449cf8cf76d5c26ca8a39b3a417b98a7288815972cb4f26fdaab5ac0af350d"), looks := false }, kinds := [], alts := [], laidByText := true, laidKinds := [.sentinel], laidTests := true, laidLooks := .later }
def FnUnsafeRenewDelegationTokenResponseUptoCardSaid : Prop := Claim7.holds Tryd.pinned (.plain (OpenSpec.upto fnUnsafeRenewDelegationTokenResponseSpec)) fnUnsafeRenewDelegationTokenResponseUptoCard

/-- THE SECOND FORM's CARD OF 'laws.FnTellPushTelemetryRequest'. -/
def fnTellPushTelemetryRequestUptoCard : Claim7 := { stood := { row := fnTellPushTelemetryRequestUptoRow, standIns := [], harness := (true, "1e449cf8cf76d5c26ca8a39b3a417b98a7288815972cb4f26fdaab5ac0af350d"), looks := false }, kinds := [], alts := [], laidByText := true, laidKinds := [.sentinel], laidTests := true, laidLooks := .later }
def FnTellPushTelemetryRequestUptoCardSaid : Prop := Claim7.holds Tryd.pinned (.plain (OpenSpec.upto fnTellPushTelemetryRequestSpec)) fnTellPushTelemetryRequestUptoCard

/-- THE SECOND FORM's CARD OF 'laws.FnUnsafeAddRaftVoterResponse'. -/
def fnUnsafeAddRaftVoterResponseUptoCard : Claim7 := { stood := { row := fnUnsafeAddRaftVoterResponseUptoRow, standIns := [], harness := (true, "1e449cf8cf76d5c26ca8a39b3a417b98a7288815972cb4f26fdaab5ac0af350d"), looks := false }, kinds := [], alts := [], laidByText := true, laidKinds := [.sentinel], laidTests := true, laidLooks := .later }
def FnUnsafeAddRaftVoterResponseUptoCardSaid : Prop := Claim7.holds Tryd.pinned (.plain (OpenSpec.upto fnUnsafeAddRaftVoterResponseSpec)) fnUnsafeAddRaftVoterResponseUptoCard

/-- THE SECOND FORM's CARD OF 'laws.FnTellOffsetCommitValue'. -/
def fnTellOffsetCommitValueUptoCard : Claim7 := { stood := { row := fnTellOffsetCommitValueUptoRow, standIns := [], harness := (true, "1e449cf8cf76d5c26ca8a39b3a417b98a7288815972cb4f26fdaab5ac0af350d"), looks := false }, kinds := [], alts := [], laidByText := true, laidKinds := [.sentinel], laidTests := true, laidLooks := .later }
def FnTellOffsetCommitValueUptoCardSaid : Prop := Claim7.holds Tryd.pinned (.plain (OpenSpec.upto fnTellOffsetCommitValueSpec)) fnTellOffsetCommitValueUptoCard
end Rows
end Go.Proofs.YtnemimighhpcaaaDoor
