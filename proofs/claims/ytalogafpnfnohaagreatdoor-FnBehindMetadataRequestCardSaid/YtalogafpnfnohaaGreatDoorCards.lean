/-
  DERIVED. GIVEN WITH THE SEED: THE CARDS: each row of YtalogafpnfnohaaGreatDoorRows.lean that lists a variable, with what it lists TIED to the program's text (the seventh form; the later family's looks); each row that meets fmt, with fmt's text TOLD by the authors' own Lean function (tested against real Go, not proved from fmt's source: count such statements apart). THE CARD IS WHAT COUNTS. Prove the row's statement (the work); the ties are given (YtalogafpnfnohaaGreatDoorTie.lean); close each card by the builder's one call (the guide's Derived/Test/ToyasCard.lean, 'card_holds'). Laid BY PROGRAM, IN A SANDBOX (cutbox-door.mjs). By AI agents, Wed Nov 11 2026. No macro, syntax, notation, axiom, sorry.
-/
import Derived.Test.YtalogafpnfnohaaGreatDoorRows
import GoSem.ClaimSeven
namespace Go.Proofs.YtalogafpnfnohaaGreatDoor
namespace Rows

/-- THE TIED CARD OF 'laws.FnBehindListPartitionReassignmentsResponse'. -/
def fnBehindListPartitionReassignmentsResponseCard : Claim7 := { stood := { row := fnBehindListPartitionReassignmentsResponseRow, standIns := [], harness := (true, "85c28ee203cae32b8ba947333d5c8297edd36a1825372251ce994ea94a643774"), looks := false }, kinds := [], alts := [], laidByText := true, laidKinds := [.sentinel], laidTests := true, laidLooks := .later }
def FnBehindListPartitionReassignmentsResponseCardSaid : Prop := Claim7.holds Tryz.pinned (.plain (OpenSpec.ofChange fnBehindListPartitionReassignmentsResponseSpec)) fnBehindListPartitionReassignmentsResponseCard

/-- THE TIED CARD OF 'laws.FnBehindAddPartitionsToTxnRequest'. -/
def fnBehindAddPartitionsToTxnRequestCard : Claim7 := { stood := { row := fnBehindAddPartitionsToTxnRequestRow, standIns := [], harness := (true, "85c28ee203cae32b8ba947333d5c8297edd36a1825372251ce994ea94a643774"), looks := false }, kinds := [], alts := [], laidByText := true, laidKinds := [.sentinel], laidTests := true, laidLooks := .later }
def FnBehindAddPartitionsToTxnRequestCardSaid : Prop := Claim7.holds Tryz.pinned (.plain (OpenSpec.ofChange fnBehindAddPartitionsToTxnRequestSpec)) fnBehindAddPartitionsToTxnRequestCard

/-- THE TIED CARD OF 'laws.FnBehindMetadataRequest'. -/
def fnBehindMetadataRequestCard : Claim7 := { stood := { row := fnBehindMetadataRequestRow, standIns := [], harness := (true, "85c28ee203cae32b8ba947333d5c8297edd36a1825372251ce994ea94a643774"), looks := false }, kinds := [], alts := [], laidByText := true, laidKinds := [.sentinel], laidTests := true, laidLooks := .later }
def FnBehindMetadataRequestCardSaid : Prop := Claim7.holds Tryz.pinned (.plain (OpenSpec.ofChange fnBehindMetadataRequestSpec)) fnBehindMetadataRequestCard

/-- THE TIED CARD OF 'laws.FnBehindAssignReplicasToDirsResponse'. -/
def fnBehindAssignReplicasToDirsResponseCard : Claim7 := { stood := { row := fnBehindAssignReplicasToDirsResponseRow, standIns := [], harness := (true, "85c28ee203cae32b8ba947333d5c8297edd36a1825372251ce994ea94a643774"), looks := false }, kinds := [], alts := [], laidByText := true, laidKinds := [.sentinel], laidTests := true, laidLooks := .later }
def FnBehindAssignReplicasToDirsResponseCardSaid : Prop := Claim7.holds Tryz.pinned (.plain (OpenSpec.ofChange fnBehindAssignReplicasToDirsResponseSpec)) fnBehindAssignReplicasToDirsResponseCard

/-- THE TIED CARD OF 'laws.FnBehindBrokerHeartbeatRequest'. -/
def fnBehindBrokerHeartbeatRequestCard : Claim7 := { stood := { row := fnBehindBrokerHeartbeatRequestRow, standIns := [], harness := (true, "85c28ee203cae32b8ba947333d5c8297edd36a1825372251ce994ea94a643774"), looks := false }, kinds := [], alts := [], laidByText := true, laidKinds := [.sentinel], laidTests := true, laidLooks := .later }
def FnBehindBrokerHeartbeatRequestCardSaid : Prop := Claim7.holds Tryz.pinned (.plain (OpenSpec.ofChange fnBehindBrokerHeartbeatRequestSpec)) fnBehindBrokerHeartbeatRequestCard

/-- THE TIED CARD OF 'laws.FnBehindDeleteShareGroupStateResponse'. -/
def fnBehindDeleteShareGroupStateResponseCard : Claim7 := { stood := { row := fnBehindDeleteShareGroupStateResponseRow, standIns := [], harness := (true, "85c28ee203cae32b8ba947333d5c8297edd36a1825372251ce994ea94a643774"), looks := false }, kinds := [], alts := [], laidByText := true, laidKinds := [.sentinel], laidTests := true, laidLooks := .later }
def FnBehindDeleteShareGroupStateResponseCardSaid : Prop := Claim7.holds Tryz.pinned (.plain (OpenSpec.ofChange fnBehindDeleteShareGroupStateResponseSpec)) fnBehindDeleteShareGroupStateResponseCard

/-- THE TIED CARD OF 'laws.FnBehindShareGroupHeartbeatResponse'. -/
def fnBehindShareGroupHeartbeatResponseCard : Claim7 := { stood := { row := fnBehindShareGroupHeartbeatResponseRow, standIns := [], harness := (true, "85c28ee203cae32b8ba947333d5c8297edd36a1825372251ce994ea94a643774"), looks := false }, kinds := [], alts := [], laidByText := true, laidKinds := [.sentinel], laidTests := true, laidLooks := .later }
def FnBehindShareGroupHeartbeatResponseCardSaid : Prop := Claim7.holds Tryz.pinned (.plain (OpenSpec.ofChange fnBehindShareGroupHeartbeatResponseSpec)) fnBehindShareGroupHeartbeatResponseCard

/-- THE TIED CARD OF 'laws.FnBehindShareAcknowledgeResponse'. -/
def fnBehindShareAcknowledgeResponseCard : Claim7 := { stood := { row := fnBehindShareAcknowledgeResponseRow, standIns := [], harness := (true, "85c28ee203cae32b8ba947333d5c8297edd36a1825372251ce994ea94a643774"), looks := false }, kinds := [], alts := [], laidByText := true, laidKinds := [.sentinel], laidTests := true, laidLooks := .later }
def FnBehindShareAcknowledgeResponseCardSaid : Prop := Claim7.holds Tryz.pinned (.plain (OpenSpec.ofChange fnBehindShareAcknowledgeResponseSpec)) fnBehindShareAcknowledgeResponseCard

/-- THE TIED CARD OF 'laws.FnBehindFetchRequest'. -/
def fnBehindFetchRequestCard : Claim7 := { stood := { row := fnBehindFetchRequestRow, standIns := [], harness := (true, "85c28ee203cae32b8ba947333d5c8297edd36a1825372251ce994ea94a643774"), looks := false }, kinds := [], alts := [], laidByText := true, laidKinds := [.sentinel], laidTests := true, laidLooks := .later }
def FnBehindFetchRequestCardSaid : Prop := Claim7.holds Tryz.pinned (.plain (OpenSpec.ofChange fnBehindFetchRequestSpec)) fnBehindFetchRequestCard

/-- THE SECOND FORM's CARD OF 'laws.FnBehindListPartitionReassignmentsResponse'. -/
def fnBehindListPartitionReassignmentsResponseUptoCard : Claim7 := { stood := { row := fnBehindListPartitionReassignmentsResponseUptoRow, standIns := [], harness := (true, "85c28ee203cae32b8ba947333d5c8297edd36a1825372251ce994ea94a643774"), looks := false }, kinds := [], alts := [], laidByText := true, laidKinds := [.sentinel], laidTests := true, laidLooks := .later }
def FnBehindListPartitionReassignmentsResponseUptoCardSaid : Prop := Claim7.holds Tryz.pinned (.plain (OpenSpec.upto fnBehindListPartitionReassignmentsResponseSpec)) fnBehindListPartitionReassignmentsResponseUptoCard

/-- THE SECOND FORM's CARD OF 'laws.FnBehindAddPartitionsToTxnRequest'. -/
def fnBehindAddPartitionsToTxnRequestUptoCard : Claim7 := { stood := { row := fnBehindAddPartitionsToTxnRequestUptoRow, standIns := [], harness := (true, "85c28ee203cae32b8ba947333d5c8297edd36a1825372251ce994ea94a643774"), looks := false }, kinds := [], alts := [], laidByText := true, laidKinds := [.sentinel], laidTests := true, laidLooks := .later }
def FnBehindAddPartitionsToTxnRequestUptoCardSaid : Prop := Claim7.holds Tryz.pinned (.plain (OpenSpec.upto fnBehindAddPartitionsToTxnRequestSpec)) fnBehindAddPartitionsToTxnRequestUptoCard

/-- THE SECOND FORM's CARD OF 'laws.FnBehindMetadataRequest'. -/
def fnBehindMetadataRequestUptoCard : Claim7 := { stood := { row := fnBehindMetadataRequestUptoRow, standIns := [], harness := (true, "85c28ee203cae32b8ba947333d5c8297edd36a1825372251ce994ea94a643774"), looks := false }, kinds := [], alts := [], laidByText := true, laidKinds := [.sentinel], laidTests := true, laidLooks := .later }
def FnBehindMetadataRequestUptoCardSaid : Prop := Claim7.holds Tryz.pinned (.plain (OpenSpec.upto fnBehindMetadataRequestSpec)) fnBehindMetadataRequestUptoCard

/-- THE SECOND FORM's CARD OF 'laws.FnBehindAssignReplicasToDirsResponse'. -/
def fnBehindAssignReplicasToDirsResponseUptoCard : Claim7 := { stood := { row := fnBehindAssignReplicasToDirsResponseUptoRow, standIns := [], harness := (true, "85c28ee203cae32b8ba947333d5c8297edd36a1825372251ce994ea94a643774"), looks := false }, kinds := [], alts := [], laidByText := true, laidKinds := [.sentinel], laidTests := true, laidLooks := .later }
def FnBehindAssignReplicasToDirsResponseUptoCardSaid : Prop := Claim7.holds Tryz.pinned (.plain (OpenSpec.upto fnBehindAssignReplicasToDirsResponseSpec)) fnBehindAssignReplicasToDirsResponseUptoCard

/-- THE SECOND FORM's CARD OF 'laws.FnBehindBrokerHeartbeatRequest'. -/
def fnBehindBrokerHeartbeatRequestUptoCard : Claim7 := { stood := { row := fnBehindBrokerHeartbeatRequestUptoRow, standIns := [], harness := (true, "85c28ee203cae32b8ba947333d5c8297edd36a1825372251ce994ea94a643774"), looks := false }, kinds := [], alts := [], laidByText := true, laidKinds := [.sentinel], laidTests := true, laidLooks := .later }
def FnBehindBrokerHeartbeatRequestUptoCardSaid : Prop := Claim7.holds Tryz.pinned (.plain (OpenSpec.upto fnBehindBrokerHeartbeatRequestSpec)) fnBehindBrokerHeartbeatRequestUptoCard

/-- THE SECOND FORM's CARD OF 'laws.FnBehindDeleteShareGroupStateResponse'. -/
def fnBehindDeleteShareGroupStateResponseUptoCard : Claim7 := { stood := { row := fnBehindDeleteShareGroupStateResponseUptoRow, standIns := [], harness := (true, "85c28ee203cae32b8ba947333d5c8297edd36a1825372251ce994ea94a643774"), looks := false }, kinds := [], alts := [], laidByText := true, laidKinds := [.sentinel], laidTests := true, laidLooks := .later }
def FnBehindDeleteShareGroupStateResponseUptoCardSaid : Prop := Claim7.holds Tryz.pinned (.plain (OpenSpec.upto fnBehindDeleteShareGroupStateResponseSpec)) fnBehindDeleteShareGroupStateResponseUptoCard

/-- THE SECOND FORM's CARD OF 'laws.FnBehindShareGroupHeartbeatResponse'. -/
def fnBehindShareGroupHeartbeatResponseUptoCard : Claim7 := { stood := { row := fnBehindShareGroupHeartbeatResponseUptoRow, standIns := [], harness := (true, "85c28ee203cae32b8ba947333d5c8297edd36a1825372251ce994ea94a643774"), looks := false }, kinds := [], alts := [], laidByText := true, laidKinds := [.sentinel], laidTests := true, laidLooks := .later }
def FnBehindShareGroupHeartbeatResponseUptoCardSaid : Prop := Claim7.holds Tryz.pinned (.plain (OpenSpec.upto fnBehindShareGroupHeartbeatResponseSpec)) fnBehindShareGroupHeartbeatResponseUptoCard

/-- THE SECOND FORM's CARD OF 'laws.FnBehindShareAcknowledgeResponse'. -/
def fnBehindShareAcknowledgeResponseUptoCard : Claim7 := { stood := { row := fnBehindShareAcknowledgeResponseUptoRow, standIns := [], harness := (true, "85c28ee203cae32b8ba947333d5c8297edd36a1825372251ce994ea94a643774"), looks := false }, kinds := [], alts := [], laidByText := true, laidKinds := [.sentinel], laidTests := true, laidLooks := .later }
def FnBehindShareAcknowledgeResponseUptoCardSaid : Prop := Claim7.holds Tryz.pinned (.plain (OpenSpec.upto fnBehindShareAcknowledgeResponseSpec)) fnBehindShareAcknowledgeResponseUptoCard

/-- THE SECOND FORM's CARD OF 'laws.FnBehindFetchRequest'. -/
def fnBehindFetchRequestUptoCard : Claim7 := { stood := { row := fnBehindFetchRequestUptoRow, standIns := [], harness := (true, "85c28ee203cae32b8ba947333d5c8297edd36a1825372251ce994ea94a643774"), looks := false }, kinds := [], alts := [], laidByText := true, laidKinds := [.sentinel], laidTests := true, laidLooks := .later }
def FnBehindFetchRequestUptoCardSaid : Prop := Claim7.holds Tryz.pinned (.plain (OpenSpec.upto fnBehindFetchRequestSpec)) fnBehindFetchRequestUptoCard
end Rows
end Go.Proofs.YtalogafpnfnohaaGreatDoor
