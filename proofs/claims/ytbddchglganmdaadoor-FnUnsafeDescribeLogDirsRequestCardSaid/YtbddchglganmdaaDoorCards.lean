/-
  DERIVED. GIVEN WITH THE SEED: THE CARDS: each row of YtbddchglganmdaaDoorRows.lean that lists a variable, with what it lists TIED to the program's text (the seventh form; the later family's looks); each row that meets fmt, with fmt's text TOLD by the authors' own Lean function (tested against real Go, not proved from fmt's source: count such statements apart). THE CARD IS WHAT COUNTS. Prove the row's statement (the work); the ties are given (YtbddchglganmdaaDoorTie.lean); close each card by the builder's one call (the guide's Derived/Test/ToyasCard.lean, 'card_holds'). Laid BY PROGRAM, IN A SANDBOX (cutbox-door.mjs). By AI agents, Wed Nov 11 2026. No macro, syntax, notation, axiom, sorry.
-/
import Derived.Test.YtbddchglganmdaaDoorRows
import GoSem.ClaimSeven
namespace Go.Proofs.YtbddchglganmdaaDoor
namespace Rows

/-- THE TIED CARD OF 'laws.FnUnsafeAlterConfigsResponse'. -/
def fnUnsafeAlterConfigsResponseCard : Claim7 := { stood := { row := fnUnsafeAlterConfigsResponseRow, standIns := [], harness := (true, "eff2f0a1f9c3b73e7aab96d662d56b5250a0e0fdc84e301962c14ec518aa4557"), looks := false }, kinds := [], alts := [], laidByText := true, laidKinds := [.sentinel], laidTests := true, laidLooks := .later }
def FnUnsafeAlterConfigsResponseCardSaid : Prop := Claim7.holds Tryd.pinned (.plain (OpenSpec.ofChange fnUnsafeAlterConfigsResponseSpec)) fnUnsafeAlterConfigsResponseCard

/-- THE TIED CARD OF 'laws.FnUnsafeElectLeadersResponse'. -/
def fnUnsafeElectLeadersResponseCard : Claim7 := { stood := { row := fnUnsafeElectLeadersResponseRow, standIns := [], harness := (true, "eff2f0a1f9c3b73e7aab96d662d56b5250a0e0fdc84e301962c14ec518aa4557"), looks := false }, kinds := [], alts := [], laidByText := true, laidKinds := [.sentinel], laidTests := true, laidLooks := .later }
def FnUnsafeElectLeadersResponseCardSaid : Prop := Claim7.holds Tryd.pinned (.plain (OpenSpec.ofChange fnUnsafeElectLeadersResponseSpec)) fnUnsafeElectLeadersResponseCard

/-- THE TIED CARD OF 'laws.FnUnsafeRemoveRaftVoterRequest'. -/
def fnUnsafeRemoveRaftVoterRequestCard : Claim7 := { stood := { row := fnUnsafeRemoveRaftVoterRequestRow, standIns := [], harness := (true, "eff2f0a1f9c3b73e7aab96d662d56b5250a0e0fdc84e301962c14ec518aa4557"), looks := false }, kinds := [], alts := [], laidByText := true, laidKinds := [.sentinel], laidTests := true, laidLooks := .later }
def FnUnsafeRemoveRaftVoterRequestCardSaid : Prop := Claim7.holds Tryd.pinned (.plain (OpenSpec.ofChange fnUnsafeRemoveRaftVoterRequestSpec)) fnUnsafeRemoveRaftVoterRequestCard

/-- THE TIED CARD OF 'laws.FnUnsafeDescribeLogDirsRequest'. -/
def fnUnsafeDescribeLogDirsRequestCard : Claim7 := { stood := { row := fnUnsafeDescribeLogDirsRequestRow, standIns := [], harness := (true, "eff2f0a1f9c3b73e7aab96d662d56b5250a0e0fdc84e301962c14ec518aa4557"), looks := false }, kinds := [], alts := [], laidByText := true, laidKinds := [.sentinel], laidTests := true, laidLooks := .later }
def FnUnsafeDescribeLogDirsRequestCardSaid : Prop := Claim7.holds Tryd.pinned (.plain (OpenSpec.ofChange fnUnsafeDescribeLogDirsRequestSpec)) fnUnsafeDescribeLogDirsRequestCard

/-- THE TIED CARD OF 'laws.FnUnsafeSyncGroupRequest'. -/
def fnUnsafeSyncGroupRequestCard : Claim7 := { stood := { row := fnUnsafeSyncGroupRequestRow, standIns := [], harness := (true, "eff2f0a1f9c3b73e7aab96d662d56b5250a0e0fdc84e301962c14ec518aa4557"), looks := false }, kinds := [], alts := [], laidByText := true, laidKinds := [.sentinel], laidTests := true, laidLooks := .later }
def FnUnsafeSyncGroupRequestCardSaid : Prop := Claim7.holds Tryd.pinned (.plain (OpenSpec.ofChange fnUnsafeSyncGroupRequestSpec)) fnUnsafeSyncGroupRequestCard

/-- THE TIED CARD OF 'laws.FnUnsafeDescribeProducersResponse'. -/
def fnUnsafeDescribeProducersResponseCard : Claim7 := { stood := { row := fnUnsafeDescribeProducersResponseRow, standIns := [], harness := (true, "eff2f0a1f9c3b73e7aab96d662d56b5250a0e0fdc84e301962c14ec518aa4557"), looks := false }, kinds := [], alts := [], laidByText := true, laidKinds := [.sentinel], laidTests := true, laidLooks := .later }
def FnUnsafeDescribeProducersResponseCardSaid : Prop := Claim7.holds Tryd.pinned (.plain (OpenSpec.ofChange fnUnsafeDescribeProducersResponseSpec)) fnUnsafeDescribeProducersResponseCard

/-- THE TIED CARD OF 'laws.FnUnsafeAlterClientQuotasRequest'. -/
def fnUnsafeAlterClientQuotasRequestCard : Claim7 := { stood := { row := fnUnsafeAlterClientQuotasRequestRow, standIns := [], harness := (true, "eff2f0a1f9c3b73e7aab96d662d56b5250a0e0fdc84e301962c14ec518aa4557"), looks := false }, kinds := [], alts := [], laidByText := true, laidKinds := [.sentinel], laidTests := true, laidLooks := .later }
def FnUnsafeAlterClientQuotasRequestCardSaid : Prop := Claim7.holds Tryd.pinned (.plain (OpenSpec.ofChange fnUnsafeAlterClientQuotasRequestSpec)) fnUnsafeAlterClientQuotasRequestCard

/-- THE TIED CARD OF 'laws.FnUnsafeDescribeClientQuotasResponse'. -/
def fnUnsafeDescribeClientQuotasResponseCard : Claim7 := { stood := { row := fnUnsafeDescribeClientQuotasResponseRow, standIns := [], harness := (true, "eff2f0a1f9c3b73e7aab96d662d56b5250a0e0fdc84e301962c14ec518aa4557"), looks := false }, kinds := [], alts := [], laidByText := true, laidKinds := [.sentinel], laidTests := true, laidLooks := .later }
def FnUnsafeDescribeClientQuotasResponseCardSaid : Prop := Claim7.holds Tryd.pinned (.plain (OpenSpec.ofChange fnUnsafeDescribeClientQuotasResponseSpec)) fnUnsafeDescribeClientQuotasResponseCard

/-- THE TIED CARD OF 'laws.FnUnsafeOffsetFetchRequest'. -/
def fnUnsafeOffsetFetchRequestCard : Claim7 := { stood := { row := fnUnsafeOffsetFetchRequestRow, standIns := [], harness := (true, "eff2f0a1f9c3b73e7aab96d662d56b5250a0e0fdc84e301962c14ec518aa4557"), looks := false }, kinds := [], alts := [], laidByText := true, laidKinds := [.sentinel], laidTests := true, laidLooks := .later }
def FnUnsafeOffsetFetchRequestCardSaid : Prop := Claim7.holds Tryd.pinned (.plain (OpenSpec.ofChange fnUnsafeOffsetFetchRequestSpec)) fnUnsafeOffsetFetchRequestCard

/-- THE TIED CARD OF 'laws.FnUnsafeDescribeTopicPartitionsResponse'. -/
def fnUnsafeDescribeTopicPartitionsResponseCard : Claim7 := { stood := { row := fnUnsafeDescribeTopicPartitionsResponseRow, standIns := [], harness := (true, "eff2f0a1f9c3b73e7aab96d662d56b5250a0e0fdc84e301962c14ec518aa4557"), looks := false }, kinds := [], alts := [], laidByText := true, laidKinds := [.sentinel], laidTests := true, laidLooks := .later }
def FnUnsafeDescribeTopicPartitionsResponseCardSaid : Prop := Claim7.holds Tryd.pinned (.plain (OpenSpec.ofChange fnUnsafeDescribeTopicPartitionsResponseSpec)) fnUnsafeDescribeTopicPartitionsResponseCard

/-- THE SECOND FORM's CARD OF 'laws.FnUnsafeAlterConfigsResponse'. -/
def fnUnsafeAlterConfigsResponseUptoCard : Claim7 := { stood := { row := fnUnsafeAlterConfigsResponseUptoRow, standIns := [], harness := (true, "eff2f0a1f9c3b73e7aab96d662d56b5250a0e0fdc84e301962c14ec518aa4557"), looks := false }, kinds := [], alts := [], laidByText := true, laidKinds := [.sentinel], laidTests := true, laidLooks := .later }
def FnUnsafeAlterConfigsResponseUptoCardSaid : Prop := Claim7.holds Tryd.pinned (.plain (OpenSpec.upto fnUnsafeAlterConfigsResponseSpec)) fnUnsafeAlterConfigsResponseUptoCard

/-- THE SECOND FORM's CARD OF 'laws.FnUnsafeElectLeadersResponse'. -/
def fnUnsafeElectLeadersResponseUptoCard : Claim7 := { stood := { row := fnUnsafeElectLeadersResponseUptoRow, standIns := [], harness := (true, "eff2f0a1f9c3b73e7aab96d662d56b5250a0e0fdc84e301962c14ec518aa4557"), looks := false }, kinds := [], alts := [], laidByText := true, laidKinds := [.sentinel], laidTests := true, laidLooks := .later }
def FnUnsafeElectLeadersResponseUptoCardSaid : Prop := Claim7.holds Tryd.pinned (.plain (OpenSpec.upto fnUnsafeElectLeadersResponseSpec)) fnUnsafeElectLeadersResponseUptoCard

/-- THE SECOND FORM's CARD OF 'laws.FnUnsafeRemoveRaftVoterRequest'. -/
def fnUnsafeRemoveRaftVoterRequestUptoCard : Claim7 := { stood := { row := fnUnsafeRemoveRaftVoterRequestUptoRow, standIns := [], harness := (true, "eff2f0a1f9c3b73e7aab96d662d56b5250a0e0fdc84e301962c14ec518aa4557"), looks := false }, kinds := [], alts := [], laidByText := true, laidKinds := [.sentinel], laidTests := true, laidLooks := .later }
def FnUnsafeRemoveRaftVoterRequestUptoCardSaid : Prop := Claim7.holds Tryd.pinned (.plain (OpenSpec.upto fnUnsafeRemoveRaftVoterRequestSpec)) fnUnsafeRemoveRaftVoterRequestUptoCard

/-- THE SECOND FORM's CARD OF 'laws.FnUnsafeDescribeLogDirsRequest'. -/
def fnUnsafeDescribeLogDirsRequestUptoCard : Claim7 := { stood := { row := fnUnsafeDescribeLogDirsRequestUptoRow, standIns := [], harness := (true, "eff2f0a1f9c3b73e7aab96d662d56b5250a0e0fdc84e301962c14ec518aa4557"), looks := false }, kinds := [], alts := [], laidByText := true, laidKinds := [.sentinel], laidTests := true, laidLooks := .later }
def FnUnsafeDescribeLogDirsRequestUptoCardSaid : Prop := Claim7.holds Tryd.pinned (.plain (OpenSpec.upto fnUnsafeDescribeLogDirsRequestSpec)) fnUnsafeDescribeLogDirsRequestUptoCard

/-- THE SECOND FORM's CARD OF 'laws.FnUnsafeSyncGroupRequest'. -/
def fnUnsafeSyncGroupRequestUptoCard : Claim7 := { stood := { row := fnUnsafeSyncGroupRequestUptoRow, standIns := [], harness := (true, "eff2f0a1f9c3b73e7aab96d662d56b5250a0e0fdc84e301962c14ec518aa4557"), looks := false }, kinds := [], alts := [], laidByText := true, laidKinds := [.sentinel], laidTests := true, laidLooks := .later }
def FnUnsafeSyncGroupRequestUptoCardSaid : Prop := Claim7.holds Tryd.pinned (.plain (OpenSpec.upto fnUnsafeSyncGroupRequestSpec)) fnUnsafeSyncGroupRequestUptoCard

/-- THE SECOND FORM's CARD OF 'laws.FnUnsafeDescribeProducersResponse'. -/
def fnUnsafeDescribeProducersResponseUptoCard : Claim7 := { stood := { row := fnUnsafeDescribeProducersResponseUptoRow, standIns := [], harness := (true, "eff2f0a1f9c3b73e7aab96d662d56b5250a0e0fdc84e301962c14ec518aa4557"), looks := false }, kinds := [], alts := [], laidByText := true, laidKinds := [.sentinel], laidTests := true, laidLooks := .later }
def FnUnsafeDescribeProducersResponseUptoCardSaid : Prop := Claim7.holds Tryd.pinned (.plain (OpenSpec.upto fnUnsafeDescribeProducersResponseSpec)) fnUnsafeDescribeProducersResponseUptoCard

/-- THE SECOND FORM's CARD OF 'laws.FnUnsafeAlterClientQuotasRequest'. -/
def fnUnsafeAlterClientQuotasRequestUptoCard : Claim7 := { stood := { row := fnUnsafeAlterClientQuotasRequestUptoRow, standIns := [], harness := (true, "eff2f0a1f9c3b73e7aab96d662d56b5250a0e0fdc84e301962c14ec518aa4557"), looks := false }, kinds := [], alts := [], laidByText := true, laidKinds := [.sentinel], laidTests := true, laidLooks := .later }
def FnUnsafeAlterClientQuotasRequestUptoCardSaid : Prop := Claim7.holds Tryd.pinned (.plain (OpenSpec.upto fnUnsafeAlterClientQuotasRequestSpec)) fnUnsafeAlterClientQuotasRequestUptoCard

/-- THE SECOND FORM's CARD OF 'laws.FnUnsafeDescribeClientQuotasResponse'. -/
def fnUnsafeDescribeClientQuotasResponseUptoCard : Claim7 := { stood := { row := fnUnsafeDescribeClientQuotasResponseUptoRow, standIns := [], harness := (true, "eff2f0a1f9c3b73e7aab96d662d56b5250a0e0fdc84e301962c14ec518aa4557"), looks := false }, kinds := [], alts := [], laidByText := true, laidKinds := [.sentinel], laidTests := true, laidLooks := .later }
def FnUnsafeDescribeClientQuotasResponseUptoCardSaid : Prop := Claim7.holds Tryd.pinned (.plain (OpenSpec.upto fnUnsafeDescribeClientQuotasResponseSpec)) fnUnsafeDescribeClientQuotasResponseUptoCard

/-- THE SECOND FORM's CARD OF 'laws.FnUnsafeOffsetFetchRequest'. -/
def fnUnsafeOffsetFetchRequestUptoCard : Claim7 := { stood := { row := fnUnsafeOffsetFetchRequestUptoRow, standIns := [], harness := (true, "eff2f0a1f9c3b73e7aab96d662d56b5250a0e0fdc84e301962c14ec518aa4557"), looks := false }, kinds := [], alts := [], laidByText := true, laidKinds := [.sentinel], laidTests := true, laidLooks := .later }
def FnUnsafeOffsetFetchRequestUptoCardSaid : Prop := Claim7.holds Tryd.pinned (.plain (OpenSpec.upto fnUnsafeOffsetFetchRequestSpec)) fnUnsafeOffsetFetchRequestUptoCard

/-- THE SECOND FORM's CARD OF 'laws.FnUnsafeDescribeTopicPartitionsResponse'. -/
def fnUnsafeDescribeTopicPartitionsResponseUptoCard : Claim7 := { stood := { row := fnUnsafeDescribeTopicPartitionsResponseUptoRow, standIns := [], harness := (true, "eff2f0a1f9c3b73e7aab96d662d56b5250a0e0fdc84e301962c14ec518aa4557"), looks := false }, kinds := [], alts := [], laidByText := true, laidKinds := [.sentinel], laidTests := true, laidLooks := .later }
def FnUnsafeDescribeTopicPartitionsResponseUptoCardSaid : Prop := Claim7.holds Tryd.pinned (.plain (OpenSpec.upto fnUnsafeDescribeTopicPartitionsResponseSpec)) fnUnsafeDescribeTopicPartitionsResponseUptoCard
end Rows
end Go.Proofs.YtbddchglganmdaaDoor
