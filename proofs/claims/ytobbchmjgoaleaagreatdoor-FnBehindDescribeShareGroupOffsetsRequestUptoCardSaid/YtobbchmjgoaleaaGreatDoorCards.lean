/-
  DERIVED. GIVEN WITH THE SEED: THE CARDS: each row of YtobbchmjgoaleaaGreatDoorRows.lean that lists a variable, with what it lists TIED to the program's text (the seventh form; the later family's looks); each row that meets fmt, with fmt's text TOLD by the authors' own Lean function (tested against real Go, not proved from fmt's source: count such statements apart). THE CARD IS WHAT COUNTS. Prove the row's statement (the work); the ties are given (YtobbchmjgoaleaaGreatDoorTie.lean); close each card by the builder's one call (the guide's Derived/Test/ToyasCard.lean, 'card_holds'). Laid BY PROGRAM, IN A SANDBOX (cutbox-door.mjs). By AI agents, Wed Nov 11 2026. No macro, syntax, notation, axiom, sorry.
-/
import Derived.Test.YtobbchmjgoaleaaGreatDoorRows
import GoSem.ClaimSeven
namespace Go.Proofs.YtobbchmjgoaleaaGreatDoor
namespace Rows

/-- THE TIED CARD OF 'laws.FnBehindControllerRegistrationResponse'. -/
def fnBehindControllerRegistrationResponseCard : Claim7 := { stood := { row := fnBehindControllerRegistrationResponseRow, standIns := [], harness := (true, "0c277387c9b993b58b632d51aabb86fc935ff03417a77774d17579aed5175d0a"), looks := false }, kinds := [], alts := [], laidByText := true, laidKinds := [.sentinel], laidTests := true, laidLooks := .later }
def FnBehindControllerRegistrationResponseCardSaid : Prop := Claim7.holds Tryz.pinned (.plain (OpenSpec.ofChange fnBehindControllerRegistrationResponseSpec)) fnBehindControllerRegistrationResponseCard

/-- THE TIED CARD OF 'laws.FnBehindEndTxnRequest'. -/
def fnBehindEndTxnRequestCard : Claim7 := { stood := { row := fnBehindEndTxnRequestRow, standIns := [], harness := (true, "0c277387c9b993b58b632d51aabb86fc935ff03417a77774d17579aed5175d0a"), looks := false }, kinds := [], alts := [], laidByText := true, laidKinds := [.sentinel], laidTests := true, laidLooks := .later }
def FnBehindEndTxnRequestCardSaid : Prop := Claim7.holds Tryz.pinned (.plain (OpenSpec.ofChange fnBehindEndTxnRequestSpec)) fnBehindEndTxnRequestCard

/-- THE TIED CARD OF 'laws.FnBehindInitProducerIDRequest'. -/
def fnBehindInitProducerIDRequestCard : Claim7 := { stood := { row := fnBehindInitProducerIDRequestRow, standIns := [], harness := (true, "0c277387c9b993b58b632d51aabb86fc935ff03417a77774d17579aed5175d0a"), looks := false }, kinds := [], alts := [], laidByText := true, laidKinds := [.sentinel], laidTests := true, laidLooks := .later }
def FnBehindInitProducerIDRequestCardSaid : Prop := Claim7.holds Tryz.pinned (.plain (OpenSpec.ofChange fnBehindInitProducerIDRequestSpec)) fnBehindInitProducerIDRequestCard

/-- THE TIED CARD OF 'laws.FnBehindShareGroupDescribeRequest'. -/
def fnBehindShareGroupDescribeRequestCard : Claim7 := { stood := { row := fnBehindShareGroupDescribeRequestRow, standIns := [], harness := (true, "0c277387c9b993b58b632d51aabb86fc935ff03417a77774d17579aed5175d0a"), looks := false }, kinds := [], alts := [], laidByText := true, laidKinds := [.sentinel], laidTests := true, laidLooks := .later }
def FnBehindShareGroupDescribeRequestCardSaid : Prop := Claim7.holds Tryz.pinned (.plain (OpenSpec.ofChange fnBehindShareGroupDescribeRequestSpec)) fnBehindShareGroupDescribeRequestCard

/-- THE TIED CARD OF 'laws.FnBehindDescribeUserSCRAMCredentialsRequest'. -/
def fnBehindDescribeUserSCRAMCredentialsRequestCard : Claim7 := { stood := { row := fnBehindDescribeUserSCRAMCredentialsRequestRow, standIns := [], harness := (true, "0c277387c9b993b58b632d51aabb86fc935ff03417a77774d17579aed5175d0a"), looks := false }, kinds := [], alts := [], laidByText := true, laidKinds := [.sentinel], laidTests := true, laidLooks := .later }
def FnBehindDescribeUserSCRAMCredentialsRequestCardSaid : Prop := Claim7.holds Tryz.pinned (.plain (OpenSpec.ofChange fnBehindDescribeUserSCRAMCredentialsRequestSpec)) fnBehindDescribeUserSCRAMCredentialsRequestCard

/-- THE TIED CARD OF 'laws.FnBehindStreamsGroupDescribeRequest'. -/
def fnBehindStreamsGroupDescribeRequestCard : Claim7 := { stood := { row := fnBehindStreamsGroupDescribeRequestRow, standIns := [], harness := (true, "0c277387c9b993b58b632d51aabb86fc935ff03417a77774d17579aed5175d0a"), looks := false }, kinds := [], alts := [], laidByText := true, laidKinds := [.sentinel], laidTests := true, laidLooks := .later }
def FnBehindStreamsGroupDescribeRequestCardSaid : Prop := Claim7.holds Tryz.pinned (.plain (OpenSpec.ofChange fnBehindStreamsGroupDescribeRequestSpec)) fnBehindStreamsGroupDescribeRequestCard

/-- THE TIED CARD OF 'laws.FnBehindDeleteShareGroupOffsetsRequest'. -/
def fnBehindDeleteShareGroupOffsetsRequestCard : Claim7 := { stood := { row := fnBehindDeleteShareGroupOffsetsRequestRow, standIns := [], harness := (true, "0c277387c9b993b58b632d51aabb86fc935ff03417a77774d17579aed5175d0a"), looks := false }, kinds := [], alts := [], laidByText := true, laidKinds := [.sentinel], laidTests := true, laidLooks := .later }
def FnBehindDeleteShareGroupOffsetsRequestCardSaid : Prop := Claim7.holds Tryz.pinned (.plain (OpenSpec.ofChange fnBehindDeleteShareGroupOffsetsRequestSpec)) fnBehindDeleteShareGroupOffsetsRequestCard

/-- THE TIED CARD OF 'laws.FnBehindDescribeACLsRequest'. -/
def fnBehindDescribeACLsRequestCard : Claim7 := { stood := { row := fnBehindDescribeACLsRequestRow, standIns := [], harness := (true, "0c277387c9b993b58b632d51aabb86fc935ff03417a77774d17579aed5175d0a"), looks := false }, kinds := [], alts := [], laidByText := true, laidKinds := [.sentinel], laidTests := true, laidLooks := .later }
def FnBehindDescribeACLsRequestCardSaid : Prop := Claim7.holds Tryz.pinned (.plain (OpenSpec.ofChange fnBehindDescribeACLsRequestSpec)) fnBehindDescribeACLsRequestCard

/-- THE TIED CARD OF 'laws.FnBehindCreatePartitionsResponse'. -/
def fnBehindCreatePartitionsResponseCard : Claim7 := { stood := { row := fnBehindCreatePartitionsResponseRow, standIns := [], harness := (true, "0c277387c9b993b58b632d51aabb86fc935ff03417a77774d17579aed5175d0a"), looks := false }, kinds := [], alts := [], laidByText := true, laidKinds := [.sentinel], laidTests := true, laidLooks := .later }
def FnBehindCreatePartitionsResponseCardSaid : Prop := Claim7.holds Tryz.pinned (.plain (OpenSpec.ofChange fnBehindCreatePartitionsResponseSpec)) fnBehindCreatePartitionsResponseCard

/-- THE TIED CARD OF 'laws.FnBehindDeleteGroupsResponse'. -/
def fnBehindDeleteGroupsResponseCard : Claim7 := { stood := { row := fnBehindDeleteGroupsResponseRow, standIns := [], harness := (true, "0c277387c9b993b58b632d51aabb86fc935ff03417a77774d17579aed5175d0a"), looks := false }, kinds := [], alts := [], laidByText := true, laidKinds := [.sentinel], laidTests := true, laidLooks := .later }
def FnBehindDeleteGroupsResponseCardSaid : Prop := Claim7.holds Tryz.pinned (.plain (OpenSpec.ofChange fnBehindDeleteGroupsResponseSpec)) fnBehindDeleteGroupsResponseCard

/-- THE TIED CARD OF 'laws.FnBehindDeleteShareGroupStateResponse'. -/
def fnBehindDeleteShareGroupStateResponseCard : Claim7 := { stood := { row := fnBehindDeleteShareGroupStateResponseRow, standIns := [], harness := (true, "0c277387c9b993b58b632d51aabb86fc935ff03417a77774d17579aed5175d0a"), looks := false }, kinds := [], alts := [], laidByText := true, laidKinds := [.sentinel], laidTests := true, laidLooks := .later }
def FnBehindDeleteShareGroupStateResponseCardSaid : Prop := Claim7.holds Tryz.pinned (.plain (OpenSpec.ofChange fnBehindDeleteShareGroupStateResponseSpec)) fnBehindDeleteShareGroupStateResponseCard

/-- THE TIED CARD OF 'laws.FnBehindDescribeShareGroupOffsetsRequest'. -/
def fnBehindDescribeShareGroupOffsetsRequestCard : Claim7 := { stood := { row := fnBehindDescribeShareGroupOffsetsRequestRow, standIns := [], harness := (true, "0c277387c9b993b58b632d51aabb86fc935ff03417a77774d17579aed5175d0a"), looks := false }, kinds := [], alts := [], laidByText := true, laidKinds := [.sentinel], laidTests := true, laidLooks := .later }
def FnBehindDescribeShareGroupOffsetsRequestCardSaid : Prop := Claim7.holds Tryz.pinned (.plain (OpenSpec.ofChange fnBehindDescribeShareGroupOffsetsRequestSpec)) fnBehindDescribeShareGroupOffsetsRequestCard

/-- THE SECOND FORM's CARD OF 'laws.FnBehindControllerRegistrationResponse'. -/
def fnBehindControllerRegistrationResponseUptoCard : Claim7 := { stood := { row := fnBehindControllerRegistrationResponseUptoRow, standIns := [], harness := (true, "0c277387c9b993b58b632d51aabb86fc935ff03417a77774d17579aed5175d0a"), looks := false }, kinds := [], alts := [], laidByText := true, laidKinds := [.sentinel], laidTests := true, laidLooks := .later }
def FnBehindControllerRegistrationResponseUptoCardSaid : Prop := Claim7.holds Tryz.pinned (.plain (OpenSpec.upto fnBehindControllerRegistrationResponseSpec)) fnBehindControllerRegistrationResponseUptoCard

/-- THE SECOND FORM's CARD OF 'laws.FnBehindEndTxnRequest'. -/
def fnBehindEndTxnRequestUptoCard : Claim7 := { stood := { row := fnBehindEndTxnRequestUptoRow, standIns := [], harness := (true, "0c277387c9b993b58b632d51aabb86fc935ff03417a77774d17579aed5175d0a"), looks := false }, kinds := [], alts := [], laidByText := true, laidKinds := [.sentinel], laidTests := true, laidLooks := .later }
def FnBehindEndTxnRequestUptoCardSaid : Prop := Claim7.holds Tryz.pinned (.plain (OpenSpec.upto fnBehindEndTxnRequestSpec)) fnBehindEndTxnRequestUptoCard

/-- THE SECOND FORM's CARD OF 'laws.FnBehindInitProducerIDRequest'. -/
def fnBehindInitProducerIDRequestUptoCard : Claim7 := { stood := { row := fnBehindInitProducerIDRequestUptoRow, standIns := [], harness := (true, "0c277387c9b993b58b632d51aabb86fc935ff03417a77774d17579aed5175d0a"), looks := false }, kinds := [], alts := [], laidByText := true, laidKinds := [.sentinel], laidTests := true, laidLooks := .later }
def FnBehindInitProducerIDRequestUptoCardSaid : Prop := Claim7.holds Tryz.pinned (.plain (OpenSpec.upto fnBehindInitProducerIDRequestSpec)) fnBehindInitProducerIDRequestUptoCard

/-- THE SECOND FORM's CARD OF 'laws.FnBehindShareGroupDescribeRequest'. -/
def fnBehindShareGroupDescribeRequestUptoCard : Claim7 := { stood := { row := fnBehindShareGroupDescribeRequestUptoRow, standIns := [], harness := (true, "0c277387c9b993b58b632d51aabb86fc935ff03417a77774d17579aed5175d0a"), looks := false }, kinds := [], alts := [], laidByText := true, laidKinds := [.sentinel], laidTests := true, laidLooks := .later }
def FnBehindShareGroupDescribeRequestUptoCardSaid : Prop := Claim7.holds Tryz.pinned (.plain (OpenSpec.upto fnBehindShareGroupDescribeRequestSpec)) fnBehindShareGroupDescribeRequestUptoCard

/-- THE SECOND FORM's CARD OF 'laws.FnBehindDescribeUserSCRAMCredentialsRequest'. -/
def fnBehindDescribeUserSCRAMCredentialsRequestUptoCard : Claim7 := { stood := { row := fnBehindDescribeUserSCRAMCredentialsRequestUptoRow, standIns := [], harness := (true, "0c277387c9b993b58b632d51aabb86fc935ff03417a77774d17579aed5175d0a"), looks := false }, kinds := [], alts := [], laidByText := true, laidKinds := [.sentinel], laidTests := true, laidLooks := .later }
def FnBehindDescribeUserSCRAMCredentialsRequestUptoCardSaid : Prop := Claim7.holds Tryz.pinned (.plain (OpenSpec.upto fnBehindDescribeUserSCRAMCredentialsRequestSpec)) fnBehindDescribeUserSCRAMCredentialsRequestUptoCard

/-- THE SECOND FORM's CARD OF 'laws.FnBehindStreamsGroupDescribeRequest'. -/
def fnBehindStreamsGroupDescribeRequestUptoCard : Claim7 := { stood := { row := fnBehindStreamsGroupDescribeRequestUptoRow, standIns := [], harness := (true, "0c277387c9b993b58b632d51aabb86fc935ff03417a77774d17579aed5175d0a"), looks := false }, kinds := [], alts := [], laidByText := true, laidKinds := [.sentinel], laidTests := true, laidLooks := .later }
def FnBehindStreamsGroupDescribeRequestUptoCardSaid : Prop := Claim7.holds Tryz.pinned (.plain (OpenSpec.upto fnBehindStreamsGroupDescribeRequestSpec)) fnBehindStreamsGroupDescribeRequestUptoCard

/-- THE SECOND FORM's CARD OF 'laws.FnBehindDeleteShareGroupOffsetsRequest'. -/
def fnBehindDeleteShareGroupOffsetsRequestUptoCard : Claim7 := { stood := { row := fnBehindDeleteShareGroupOffsetsRequestUptoRow, standIns := [], harness := (true, "0c277387c9b993b58b632d51aabb86fc935ff03417a77774d17579aed5175d0a"), looks := false }, kinds := [], alts := [], laidByText := true, laidKinds := [.sentinel], laidTests := true, laidLooks := .later }
def FnBehindDeleteShareGroupOffsetsRequestUptoCardSaid : Prop := Claim7.holds Tryz.pinned (.plain (OpenSpec.upto fnBehindDeleteShareGroupOffsetsRequestSpec)) fnBehindDeleteShareGroupOffsetsRequestUptoCard

/-- THE SECOND FORM's CARD OF 'laws.FnBehindDescribeACLsRequest'. -/
def fnBehindDescribeACLsRequestUptoCard : Claim7 := { stood := { row := fnBehindDescribeACLsRequestUptoRow, standIns := [], harness := (true, "0c277387c9b993b58b632d51aabb86fc935ff03417a77774d17579aed5175d0a"), looks := false }, kinds := [], alts := [], laidByText := true, laidKinds := [.sentinel], laidTests := true, laidLooks := .later }
def FnBehindDescribeACLsRequestUptoCardSaid : Prop := Claim7.holds Tryz.pinned (.plain (OpenSpec.upto fnBehindDescribeACLsRequestSpec)) fnBehindDescribeACLsRequestUptoCard

/-- THE SECOND FORM's CARD OF 'laws.FnBehindCreatePartitionsResponse'. -/
def fnBehindCreatePartitionsResponseUptoCard : Claim7 := { stood := { row := fnBehindCreatePartitionsResponseUptoRow, standIns := [], harness := (true, "0c277387c9b993b58b632d51aabb86fc935ff03417a77774d17579aed5175d0a"), looks := false }, kinds := [], alts := [], laidByText := true, laidKinds := [.sentinel], laidTests := true, laidLooks := .later }
def FnBehindCreatePartitionsResponseUptoCardSaid : Prop := Claim7.holds Tryz.pinned (.plain (OpenSpec.upto fnBehindCreatePartitionsResponseSpec)) fnBehindCreatePartitionsResponseUptoCard

/-- THE SECOND FORM's CARD OF 'laws.FnBehindDeleteGroupsResponse'. -/
def fnBehindDeleteGroupsResponseUptoCard : Claim7 := { stood := { row := fnBehindDeleteGroupsResponseUptoRow, standIns := [], harness := (true, "0c277387c9b993b58b632d51aabb86fc935ff03417a77774d17579aed5175d0a"), looks := false }, kinds := [], alts := [], laidByText := true, laidKinds := [.sentinel], laidTests := true, laidLooks := .later }
def FnBehindDeleteGroupsResponseUptoCardSaid : Prop := Claim7.holds Tryz.pinned (.plain (OpenSpec.upto fnBehindDeleteGroupsResponseSpec)) fnBehindDeleteGroupsResponseUptoCard

/-- THE SECOND FORM's CARD OF 'laws.FnBehindDeleteShareGroupStateResponse'. -/
def fnBehindDeleteShareGroupStateResponseUptoCard : Claim7 := { stood := { row := fnBehindDeleteShareGroupStateResponseUptoRow, standIns := [], harness := (true, "0c277387c9b993b58b632d51aabb86fc935ff03417a77774d17579aed5175d0a"), looks := false }, kinds := [], alts := [], laidByText := true, laidKinds := [.sentinel], laidTests := true, laidLooks := .later }
def FnBehindDeleteShareGroupStateResponseUptoCardSaid : Prop := Claim7.holds Tryz.pinned (.plain (OpenSpec.upto fnBehindDeleteShareGroupStateResponseSpec)) fnBehindDeleteShareGroupStateResponseUptoCard

/-- THE SECOND FORM's CARD OF 'laws.FnBehindDescribeShareGroupOffsetsRequest'. -/
def fnBehindDescribeShareGroupOffsetsRequestUptoCard : Claim7 := { stood := { row := fnBehindDescribeShareGroupOffsetsRequestUptoRow, standIns := [], harness := (true, "0c277387c9b993b58b632d51aabb86fc935ff03417a77774d17579aed5175d0a"), looks := false }, kinds := [], alts := [], laidByText := true, laidKinds := [.sentinel], laidTests := true, laidLooks := .later }
def FnBehindDescribeShareGroupOffsetsRequestUptoCardSaid : Prop := Claim7.holds Tryz.pinned (.plain (OpenSpec.upto fnBehindDescribeShareGroupOffsetsRequestSpec)) fnBehindDescribeShareGroupOffsetsRequestUptoCard
end Rows
end Go.Proofs.YtobbchmjgoaleaaGreatDoor
