/-
  DERIVED. GIVEN WITH THE SEED: THE CARDS: each row of YtdebdgofomnpoaaGreatDoorRows.lean that lists a variable, with what it lists TIED to the program's text (the seventh form; the later family's looks); each row that meets fmt, with fmt's text TOLD by the authors' own Lean function (tested against real Go, not proved from fmt's source: count such statements apart). THE CARD IS WHAT COUNTS. Prove the row's statement (the work); the ties are given (YtdebdgofomnpoaaGreatDoorTie.lean); close each card by the builder's one call (the guide's Derived/Test/ToyasCard.lean, 'card_holds'). Laid BY PROGRAM, IN A SANDBOX (cutbox-door.mjs). By AI agents, Wed Nov 11 2026. No macro, syntax, notation, axiom, sorry.
-/
import Derived.Test.YtdebdgofomnpoaaGreatDoorRows
import GoSem.ClaimSeven
namespace Go.Proofs.YtdebdgofomnpoaaGreatDoor
namespace Rows

/-- THE TIED CARD OF 'laws.FnTellOffsetCommitResponse'. -/
def fnTellOffsetCommitResponseCard : Claim7 := { stood := { row := fnTellOffsetCommitResponseRow, standIns := [], harness := (true, "7e4659d972ff984091f4f905ecfe39e59b609524568559f5187c62f0a8177008"), looks := false }, kinds := [], alts := [], laidByText := true, laidKinds := [.sentinel], laidTests := true, laidLooks := .later }
def FnTellOffsetCommitResponseCardSaid : Prop := Claim7.holds Tryz.pinned (.plain (OpenSpec.ofChange fnTellOffsetCommitResponseSpec)) fnTellOffsetCommitResponseCard

/-- THE TIED CARD OF 'laws.FnTellTxnOffsetCommitResponse'. -/
def fnTellTxnOffsetCommitResponseCard : Claim7 := { stood := { row := fnTellTxnOffsetCommitResponseRow, standIns := [], harness := (true, "7e4659d972ff984091f4f905ecfe39e59b609524568559f5187c62f0a8177008"), looks := false }, kinds := [], alts := [], laidByText := true, laidKinds := [.sentinel], laidTests := true, laidLooks := .later }
def FnTellTxnOffsetCommitResponseCardSaid : Prop := Claim7.holds Tryz.pinned (.plain (OpenSpec.ofChange fnTellTxnOffsetCommitResponseSpec)) fnTellTxnOffsetCommitResponseCard

/-- THE TIED CARD OF 'laws.FnTellInitializeShareGroupStateResponse'. -/
def fnTellInitializeShareGroupStateResponseCard : Claim7 := { stood := { row := fnTellInitializeShareGroupStateResponseRow, standIns := [], harness := (true, "7e4659d972ff984091f4f905ecfe39e59b609524568559f5187c62f0a8177008"), looks := false }, kinds := [], alts := [], laidByText := true, laidKinds := [.sentinel], laidTests := true, laidLooks := .later }
def FnTellInitializeShareGroupStateResponseCardSaid : Prop := Claim7.holds Tryz.pinned (.plain (OpenSpec.ofChange fnTellInitializeShareGroupStateResponseSpec)) fnTellInitializeShareGroupStateResponseCard

/-- THE TIED CARD OF 'laws.FnTellOffsetForLeaderEpochResponse'. -/
def fnTellOffsetForLeaderEpochResponseCard : Claim7 := { stood := { row := fnTellOffsetForLeaderEpochResponseRow, standIns := [], harness := (true, "7e4659d972ff984091f4f905ecfe39e59b609524568559f5187c62f0a8177008"), looks := false }, kinds := [], alts := [], laidByText := true, laidKinds := [.sentinel], laidTests := true, laidLooks := .later }
def FnTellOffsetForLeaderEpochResponseCardSaid : Prop := Claim7.holds Tryz.pinned (.plain (OpenSpec.ofChange fnTellOffsetForLeaderEpochResponseSpec)) fnTellOffsetForLeaderEpochResponseCard

/-- THE TIED CARD OF 'laws.FnTellDescribeConfigsRequest'. -/
def fnTellDescribeConfigsRequestCard : Claim7 := { stood := { row := fnTellDescribeConfigsRequestRow, standIns := [], harness := (true, "7e4659d972ff984091f4f905ecfe39e59b609524568559f5187c62f0a8177008"), looks := false }, kinds := [], alts := [], laidByText := true, laidKinds := [.sentinel], laidTests := true, laidLooks := .later }
def FnTellDescribeConfigsRequestCardSaid : Prop := Claim7.holds Tryz.pinned (.plain (OpenSpec.ofChange fnTellDescribeConfigsRequestSpec)) fnTellDescribeConfigsRequestCard

/-- THE TIED CARD OF 'laws.FnTellUpdateFeaturesResponse'. -/
def fnTellUpdateFeaturesResponseCard : Claim7 := { stood := { row := fnTellUpdateFeaturesResponseRow, standIns := [], harness := (true, "7e4659d972ff984091f4f905ecfe39e59b609524568559f5187c62f0a8177008"), looks := false }, kinds := [], alts := [], laidByText := true, laidKinds := [.sentinel], laidTests := true, laidLooks := .later }
def FnTellUpdateFeaturesResponseCardSaid : Prop := Claim7.holds Tryz.pinned (.plain (OpenSpec.ofChange fnTellUpdateFeaturesResponseSpec)) fnTellUpdateFeaturesResponseCard

/-- THE TIED CARD OF 'laws.FnTellWriteTxnMarkersRequest'. -/
def fnTellWriteTxnMarkersRequestCard : Claim7 := { stood := { row := fnTellWriteTxnMarkersRequestRow, standIns := [], harness := (true, "7e4659d972ff984091f4f905ecfe39e59b609524568559f5187c62f0a8177008"), looks := false }, kinds := [], alts := [], laidByText := true, laidKinds := [.sentinel], laidTests := true, laidLooks := .later }
def FnTellWriteTxnMarkersRequestCardSaid : Prop := Claim7.holds Tryz.pinned (.plain (OpenSpec.ofChange fnTellWriteTxnMarkersRequestSpec)) fnTellWriteTxnMarkersRequestCard

/-- THE TIED CARD OF 'laws.FnTellUpdateRaftVoterRequest'. -/
def fnTellUpdateRaftVoterRequestCard : Claim7 := { stood := { row := fnTellUpdateRaftVoterRequestRow, standIns := [], harness := (true, "7e4659d972ff984091f4f905ecfe39e59b609524568559f5187c62f0a8177008"), looks := false }, kinds := [], alts := [], laidByText := true, laidKinds := [.sentinel], laidTests := true, laidLooks := .later }
def FnTellUpdateRaftVoterRequestCardSaid : Prop := Claim7.holds Tryz.pinned (.plain (OpenSpec.ofChange fnTellUpdateRaftVoterRequestSpec)) fnTellUpdateRaftVoterRequestCard

/-- THE TIED CARD OF 'laws.FnTellReadShareGroupStateResponse'. -/
def fnTellReadShareGroupStateResponseCard : Claim7 := { stood := { row := fnTellReadShareGroupStateResponseRow, standIns := [], harness := (true, "7e4659d972ff984091f4f905ecfe39e59b609524568559f5187c62f0a8177008"), looks := false }, kinds := [], alts := [], laidByText := true, laidKinds := [.sentinel], laidTests := true, laidLooks := .later }
def FnTellReadShareGroupStateResponseCardSaid : Prop := Claim7.holds Tryz.pinned (.plain (OpenSpec.ofChange fnTellReadShareGroupStateResponseSpec)) fnTellReadShareGroupStateResponseCard

/-- THE TIED CARD OF 'laws.FnTellAlterPartitionRequest'. -/
def fnTellAlterPartitionRequestCard : Claim7 := { stood := { row := fnTellAlterPartitionRequestRow, standIns := [], harness := (true, "7e4659d972ff984091f4f905ecfe39e59b609524568559f5187c62f0a8177008"), looks := false }, kinds := [], alts := [], laidByText := true, laidKinds := [.sentinel], laidTests := true, laidLooks := .later }
def FnTellAlterPartitionRequestCardSaid : Prop := Claim7.holds Tryz.pinned (.plain (OpenSpec.ofChange fnTellAlterPartitionRequestSpec)) fnTellAlterPartitionRequestCard

/-- THE TIED CARD OF 'laws.FnTellAlterUserSCRAMCredentialsRequest'. -/
def fnTellAlterUserSCRAMCredentialsRequestCard : Claim7 := { stood := { row := fnTellAlterUserSCRAMCredentialsRequestRow, standIns := [], harness := (true, "7e4659d972ff984091f4f905ecfe39e59b609524568559f5187c62f0a8177008"), looks := false }, kinds := [], alts := [], laidByText := true, laidKinds := [.sentinel], laidTests := true, laidLooks := .later }
def FnTellAlterUserSCRAMCredentialsRequestCardSaid : Prop := Claim7.holds Tryz.pinned (.plain (OpenSpec.ofChange fnTellAlterUserSCRAMCredentialsRequestSpec)) fnTellAlterUserSCRAMCredentialsRequestCard

/-- THE TIED CARD OF 'laws.FnTellDescribeDelegationTokenResponse'. -/
def fnTellDescribeDelegationTokenResponseCard : Claim7 := { stood := { row := fnTellDescribeDelegationTokenResponseRow, standIns := [], harness := (true, "7e4659d972ff984091f4f905ecfe39e59b609524568559f5187c62f0a8177008"), looks := false }, kinds := [], alts := [], laidByText := true, laidKinds := [.sentinel], laidTests := true, laidLooks := .later }
def FnTellDescribeDelegationTokenResponseCardSaid : Prop := Claim7.holds Tryz.pinned (.plain (OpenSpec.ofChange fnTellDescribeDelegationTokenResponseSpec)) fnTellDescribeDelegationTokenResponseCard

/-- THE SECOND FORM's CARD OF 'laws.FnTellOffsetCommitResponse'. -/
def fnTellOffsetCommitResponseUptoCard : Claim7 := { stood := { row := fnTellOffsetCommitResponseUptoRow, standIns := [], harness := (true, "7e4659d972ff984091f4f905ecfe39e59b609524568559f5187c62f0a8177008"), looks := false }, kinds := [], alts := [], laidByText := true, laidKinds := [.sentinel], laidTests := true, laidLooks := .later }
def FnTellOffsetCommitResponseUptoCardSaid : Prop := Claim7.holds Tryz.pinned (.plain (OpenSpec.upto fnTellOffsetCommitResponseSpec)) fnTellOffsetCommitResponseUptoCard

/-- THE SECOND FORM's CARD OF 'laws.FnTellTxnOffsetCommitResponse'. -/
def fnTellTxnOffsetCommitResponseUptoCard : Claim7 := { stood := { row := fnTellTxnOffsetCommitResponseUptoRow, standIns := [], harness := (true, "7e4659d972ff984091f4f905ecfe39e59b609524568559f5187c62f0a8177008"), looks := false }, kinds := [], alts := [], laidByText := true, laidKinds := [.sentinel], laidTests := true, laidLooks := .later }
def FnTellTxnOffsetCommitResponseUptoCardSaid : Prop := Claim7.holds Tryz.pinned (.plain (OpenSpec.upto fnTellTxnOffsetCommitResponseSpec)) fnTellTxnOffsetCommitResponseUptoCard

/-- THE SECOND FORM's CARD OF 'laws.FnTellInitializeShareGroupStateResponse'. -/
def fnTellInitializeShareGroupStateResponseUptoCard : Claim7 := { stood := { row := fnTellInitializeShareGroupStateResponseUptoRow, standIns := [], harness := (true, "7e4659d972ff984091f4f905ecfe39e59b609524568559f5187c62f0a8177008"), looks := false }, kinds := [], alts := [], laidByText := true, laidKinds := [.sentinel], laidTests := true, laidLooks := .later }
def FnTellInitializeShareGroupStateResponseUptoCardSaid : Prop := Claim7.holds Tryz.pinned (.plain (OpenSpec.upto fnTellInitializeShareGroupStateResponseSpec)) fnTellInitializeShareGroupStateResponseUptoCard

/-- THE SECOND FORM's CARD OF 'laws.FnTellOffsetForLeaderEpochResponse'. -/
def fnTellOffsetForLeaderEpochResponseUptoCard : Claim7 := { stood := { row := fnTellOffsetForLeaderEpochResponseUptoRow, standIns := [], harness := (true, "7e4659d972ff984091f4f905ecfe39e59b609524568559f5187c62f0a8177008"), looks := false }, kinds := [], alts := [], laidByText := true, laidKinds := [.sentinel], laidTests := true, laidLooks := .later }
def FnTellOffsetForLeaderEpochResponseUptoCardSaid : Prop := Claim7.holds Tryz.pinned (.plain (OpenSpec.upto fnTellOffsetForLeaderEpochResponseSpec)) fnTellOffsetForLeaderEpochResponseUptoCard

/-- THE SECOND FORM's CARD OF 'laws.FnTellDescribeConfigsRequest'. -/
def fnTellDescribeConfigsRequestUptoCard : Claim7 := { stood := { row := fnTellDescribeConfigsRequestUptoRow, standIns := [], harness := (true, "7e4659d972ff984091f4f905ecfe39e59b609524568559f5187c62f0a8177008"), looks := false }, kinds := [], alts := [], laidByText := true, laidKinds := [.sentinel], laidTests := true, laidLooks := .later }
def FnTellDescribeConfigsRequestUptoCardSaid : Prop := Claim7.holds Tryz.pinned (.plain (OpenSpec.upto fnTellDescribeConfigsRequestSpec)) fnTellDescribeConfigsRequestUptoCard

/-- THE SECOND FORM's CARD OF 'laws.FnTellUpdateFeaturesResponse'. -/
def fnTellUpdateFeaturesResponseUptoCard : Claim7 := { stood := { row := fnTellUpdateFeaturesResponseUptoRow, standIns := [], harness := (true, "7e4659d972ff984091f4f905ecfe39e59b609524568559f5187c62f0a8177008"), looks := false }, kinds := [], alts := [], laidByText := true, laidKinds := [.sentinel], laidTests := true, laidLooks := .later }
def FnTellUpdateFeaturesResponseUptoCardSaid : Prop := Claim7.holds Tryz.pinned (.plain (OpenSpec.upto fnTellUpdateFeaturesResponseSpec)) fnTellUpdateFeaturesResponseUptoCard

/-- THE SECOND FORM's CARD OF 'laws.FnTellWriteTxnMarkersRequest'. -/
def fnTellWriteTxnMarkersRequestUptoCard : Claim7 := { stood := { row := fnTellWriteTxnMarkersRequestUptoRow, standIns := [], harness := (true, "7e4659d972ff984091f4f905ecfe39e59b609524568559f5187c62f0a8177008"), looks := false }, kinds := [], alts := [], laidByText := true, laidKinds := [.sentinel], laidTests := true, laidLooks := .later }
def FnTellWriteTxnMarkersRequestUptoCardSaid : Prop := Claim7.holds Tryz.pinned (.plain (OpenSpec.upto fnTellWriteTxnMarkersRequestSpec)) fnTellWriteTxnMarkersRequestUptoCard

/-- THE SECOND FORM's CARD OF 'laws.FnTellUpdateRaftVoterRequest'. -/
def fnTellUpdateRaftVoterRequestUptoCard : Claim7 := { stood := { row := fnTellUpdateRaftVoterRequestUptoRow, standIns := [], harness := (true, "7e4659d972ff984091f4f905ecfe39e59b609524568559f5187c62f0a8177008"), looks := false }, kinds := [], alts := [], laidByText := true, laidKinds := [.sentinel], laidTests := true, laidLooks := .later }
def FnTellUpdateRaftVoterRequestUptoCardSaid : Prop := Claim7.holds Tryz.pinned (.plain (OpenSpec.upto fnTellUpdateRaftVoterRequestSpec)) fnTellUpdateRaftVoterRequestUptoCard

/-- THE SECOND FORM's CARD OF 'laws.FnTellReadShareGroupStateResponse'. -/
def fnTellReadShareGroupStateResponseUptoCard : Claim7 := { stood := { row := fnTellReadShareGroupStateResponseUptoRow, standIns := [], harness := (true, "7e4659d972ff984091f4f905ecfe39e59b609524568559f5187c62f0a8177008"), looks := false }, kinds := [], alts := [], laidByText := true, laidKinds := [.sentinel], laidTests := true, laidLooks := .later }
def FnTellReadShareGroupStateResponseUptoCardSaid : Prop := Claim7.holds Tryz.pinned (.plain (OpenSpec.upto fnTellReadShareGroupStateResponseSpec)) fnTellReadShareGroupStateResponseUptoCard

/-- THE SECOND FORM's CARD OF 'laws.FnTellAlterPartitionRequest'. -/
def fnTellAlterPartitionRequestUptoCard : Claim7 := { stood := { row := fnTellAlterPartitionRequestUptoRow, standIns := [], harness := (true, "7e4659d972ff984091f4f905ecfe39e59b609524568559f5187c62f0a8177008"), looks := false }, kinds := [], alts := [], laidByText := true, laidKinds := [.sentinel], laidTests := true, laidLooks := .later }
def FnTellAlterPartitionRequestUptoCardSaid : Prop := Claim7.holds Tryz.pinned (.plain (OpenSpec.upto fnTellAlterPartitionRequestSpec)) fnTellAlterPartitionRequestUptoCard

/-- THE SECOND FORM's CARD OF 'laws.FnTellAlterUserSCRAMCredentialsRequest'. -/
def fnTellAlterUserSCRAMCredentialsRequestUptoCard : Claim7 := { stood := { row := fnTellAlterUserSCRAMCredentialsRequestUptoRow, standIns := [], harness := (true, "7e4659d972ff984091f4f905ecfe39e59b609524568559f5187c62f0a8177008"), looks := false }, kinds := [], alts := [], laidByText := true, laidKinds := [.sentinel], laidTests := true, laidLooks := .later }
def FnTellAlterUserSCRAMCredentialsRequestUptoCardSaid : Prop := Claim7.holds Tryz.pinned (.plain (OpenSpec.upto fnTellAlterUserSCRAMCredentialsRequestSpec)) fnTellAlterUserSCRAMCredentialsRequestUptoCard

/-- THE SECOND FORM's CARD OF 'laws.FnTellDescribeDelegationTokenResponse'. -/
def fnTellDescribeDelegationTokenResponseUptoCard : Claim7 := { stood := { row := fnTellDescribeDelegationTokenResponseUptoRow, standIns := [], harness := (true, "7e4659d972ff984091f4f905ecfe39e59b609524568559f5187c62f0a8177008"), looks := false }, kinds := [], alts := [], laidByText := true, laidKinds := [.sentinel], laidTests := true, laidLooks := .later }
def FnTellDescribeDelegationTokenResponseUptoCardSaid : Prop := Claim7.holds Tryz.pinned (.plain (OpenSpec.upto fnTellDescribeDelegationTokenResponseSpec)) fnTellDescribeDelegationTokenResponseUptoCard
end Rows
end Go.Proofs.YtdebdgofomnpoaaGreatDoor
