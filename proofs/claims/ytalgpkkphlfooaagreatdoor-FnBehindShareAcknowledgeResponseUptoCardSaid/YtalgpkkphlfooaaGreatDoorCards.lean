/-
  DERIVED. GIVEN WITH THE SEED: THE CARDS: each row of YtalgpkkphlfooaaGreatDoorRows.lean that lists a variable, with what it lists TIED to the program's text (the seventh form; the later family's looks); each row that meets fmt, with fmt's text TOLD by the authors' own Lean function (tested against real Go, not proved from fmt's source: count such statements apart). THE CARD IS WHAT COUNTS. Prove the row's statement (the work); the ties are given (YtalgpkkphlfooaaGreatDoorTie.lean); close each card by the builder's one call (the guide's Derived/Test/ToyasCard.lean, 'card_holds'). Laid BY PROGRAM, IN A SANDBOX (cutbox-door.mjs). By AI agents, Wed Nov 11 2026. No macro, syntax, notation, axiom, sorry.
-/
import Derived.Test.YtalgpkkphlfooaaGreatDoorRows
import GoSem.ClaimSeven
namespace Go.Proofs.YtalgpkkphlfooaaGreatDoor
namespace Rows

/-- THE TIED CARD OF 'laws.FnBehindListPartitionReassignmentsResponse'. -/
def fnBehindListPartitionReassignmentsResponseCard : Claim7 := { stood := { row := fnBehindListPartitionReassignmentsResponseRow, standIns := [], harness := (true, "2b864b8e51dd06819e00c00bdf29b014ae25ae437effdde173ce095411b88445"), looks := false }, kinds := [], alts := [], laidByText := true, laidKinds := [.sentinel], laidTests := true, laidLooks := .later }
def FnBehindListPartitionReassignmentsResponseCardSaid : Prop := Claim7.holds Tryz.pinned (.plain (OpenSpec.ofChange fnBehindListPartitionReassignmentsResponseSpec)) fnBehindListPartitionReassignmentsResponseCard

/-- THE TIED CARD OF 'laws.FnBehindAddPartitionsToTxnRequest'. -/
def fnBehindAddPartitionsToTxnRequestCard : Claim7 := { stood := { row := fnBehindAddPartitionsToTxnRequestRow, standIns := [], harness := (true, "2b864b8e51dd06819e00c00bdf29b014ae25ae437effdde173ce095411b88445"), looks := false }, kinds := [], alts := [], laidByText := true, laidKinds := [.sentinel], laidTests := true, laidLooks := .later }
def FnBehindAddPartitionsToTxnRequestCardSaid : Prop := Claim7.holds Tryz.pinned (.plain (OpenSpec.ofChange fnBehindAddPartitionsToTxnRequestSpec)) fnBehindAddPartitionsToTxnRequestCard

/-- THE TIED CARD OF 'laws.FnBehindDeleteShareGroupStateResponse'. -/
def fnBehindDeleteShareGroupStateResponseCard : Claim7 := { stood := { row := fnBehindDeleteShareGroupStateResponseRow, standIns := [], harness := (true, "2b864b8e51dd06819e00c00bdf29b014ae25ae437effdde173ce095411b88445"), looks := false }, kinds := [], alts := [], laidByText := true, laidKinds := [.sentinel], laidTests := true, laidLooks := .later }
def FnBehindDeleteShareGroupStateResponseCardSaid : Prop := Claim7.holds Tryz.pinned (.plain (OpenSpec.ofChange fnBehindDeleteShareGroupStateResponseSpec)) fnBehindDeleteShareGroupStateResponseCard

/-- THE TIED CARD OF 'laws.FnBehindAssignReplicasToDirsResponse'. -/
def fnBehindAssignReplicasToDirsResponseCard : Claim7 := { stood := { row := fnBehindAssignReplicasToDirsResponseRow, standIns := [], harness := (true, "2b864b8e51dd06819e00c00bdf29b014ae25ae437effdde173ce095411b88445"), looks := false }, kinds := [], alts := [], laidByText := true, laidKinds := [.sentinel], laidTests := true, laidLooks := .later }
def FnBehindAssignReplicasToDirsResponseCardSaid : Prop := Claim7.holds Tryz.pinned (.plain (OpenSpec.ofChange fnBehindAssignReplicasToDirsResponseSpec)) fnBehindAssignReplicasToDirsResponseCard

/-- THE TIED CARD OF 'laws.FnBehindShareAcknowledgeResponse'. -/
def fnBehindShareAcknowledgeResponseCard : Claim7 := { stood := { row := fnBehindShareAcknowledgeResponseRow, standIns := [], harness := (true, "2b864b8e51dd06819e00c00bdf29b014ae25ae437effdde173ce095411b88445"), looks := false }, kinds := [], alts := [], laidByText := true, laidKinds := [.sentinel], laidTests := true, laidLooks := .later }
def FnBehindShareAcknowledgeResponseCardSaid : Prop := Claim7.holds Tryz.pinned (.plain (OpenSpec.ofChange fnBehindShareAcknowledgeResponseSpec)) fnBehindShareAcknowledgeResponseCard

/-- THE SECOND FORM's CARD OF 'laws.FnBehindListPartitionReassignmentsResponse'. -/
def fnBehindListPartitionReassignmentsResponseUptoCard : Claim7 := { stood := { row := fnBehindListPartitionReassignmentsResponseUptoRow, standIns := [], harness := (true, "2b864b8e51dd06819e00c00bdf29b014ae25ae437effdde173ce095411b88445"), looks := false }, kinds := [], alts := [], laidByText := true, laidKinds := [.sentinel], laidTests := true, laidLooks := .later }
def FnBehindListPartitionReassignmentsResponseUptoCardSaid : Prop := Claim7.holds Tryz.pinned (.plain (OpenSpec.upto fnBehindListPartitionReassignmentsResponseSpec)) fnBehindListPartitionReassignmentsResponseUptoCard

/-- THE SECOND FORM's CARD OF 'laws.FnBehindAddPartitionsToTxnRequest'. -/
def fnBehindAddPartitionsToTxnRequestUptoCard : Claim7 := { stood := { row := fnBehindAddPartitionsToTxnRequestUptoRow, standIns := [], harness := (true, "2b864b8e51dd06819e00c00bdf29b014ae25ae437effdde173ce095411b88445"), looks := false }, kinds := [], alts := [], laidByText := true, laidKinds := [.sentinel], laidTests := true, laidLooks := .later }
def FnBehindAddPartitionsToTxnRequestUptoCardSaid : Prop := Claim7.holds Tryz.pinned (.plain (OpenSpec.upto fnBehindAddPartitionsToTxnRequestSpec)) fnBehindAddPartitionsToTxnRequestUptoCard

/-- THE SECOND FORM's CARD OF 'laws.FnBehindDeleteShareGroupStateResponse'. -/
def fnBehindDeleteShareGroupStateResponseUptoCard : Claim7 := { stood := { row := fnBehindDeleteShareGroupStateResponseUptoRow, standIns := [], harness := (true, "2b864b8e51dd06819e00c00bdf29b014ae25ae437effdde173ce095411b88445"), looks := false }, kinds := [], alts := [], laidByText := true, laidKinds := [.sentinel], laidTests := true, laidLooks := .later }
def FnBehindDeleteShareGroupStateResponseUptoCardSaid : Prop := Claim7.holds Tryz.pinned (.plain (OpenSpec.upto fnBehindDeleteShareGroupStateResponseSpec)) fnBehindDeleteShareGroupStateResponseUptoCard

/-- THE SECOND FORM's CARD OF 'laws.FnBehindAssignReplicasToDirsResponse'. -/
def fnBehindAssignReplicasToDirsResponseUptoCard : Claim7 := { stood := { row := fnBehindAssignReplicasToDirsResponseUptoRow, standIns := [], harness := (true, "2b864b8e51dd06819e00c00bdf29b014ae25ae437effdde173ce095411b88445"), looks := false }, kinds := [], alts := [], laidByText := true, laidKinds := [.sentinel], laidTests := true, laidLooks := .later }
def FnBehindAssignReplicasToDirsResponseUptoCardSaid : Prop := Claim7.holds Tryz.pinned (.plain (OpenSpec.upto fnBehindAssignReplicasToDirsResponseSpec)) fnBehindAssignReplicasToDirsResponseUptoCard

/-- THE SECOND FORM's CARD OF 'laws.FnBehindShareAcknowledgeResponse'. -/
def fnBehindShareAcknowledgeResponseUptoCard : Claim7 := { stood := { row := fnBehindShareAcknowledgeResponseUptoRow, standIns := [], harness := (true, "2b864b8e51dd06819e00c00bdf29b014ae25ae437effdde173ce095411b88445"), looks := false }, kinds := [], alts := [], laidByText := true, laidKinds := [.sentinel], laidTests := true, laidLooks := .later }
def FnBehindShareAcknowledgeResponseUptoCardSaid : Prop := Claim7.holds Tryz.pinned (.plain (OpenSpec.upto fnBehindShareAcknowledgeResponseSpec)) fnBehindShareAcknowledgeResponseUptoCard
end Rows
end Go.Proofs.YtalgpkkphlfooaaGreatDoor
