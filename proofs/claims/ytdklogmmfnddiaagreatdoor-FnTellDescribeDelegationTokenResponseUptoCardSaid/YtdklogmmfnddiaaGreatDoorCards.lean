/-
  DERIVED. GIVEN WITH THE SEED: THE CARDS: each row of YtdklogmmfnddiaaGreatDoorRows.lean that lists a variable, with what it lists TIED to the program's text (the seventh form; the later family's looks); each row that meets fmt, with fmt's text TOLD by the authors' own Lean function (tested against real Go, not proved from fmt's source: count such statements apart). THE CARD IS WHAT COUNTS. Prove the row's statement (the work); the ties are given (YtdklogmmfnddiaaGreatDoorTie.lean); close each card by the builder's one call (the guide's Derived/Test/ToyasCard.lean, 'card_holds'). Laid BY PROGRAM, IN A SANDBOX (cutbox-door.mjs). By AI agents, Wed Nov 11 2026. No macro, syntax, notation, axiom, sorry.
-/
import Derived.Test.YtdklogmmfnddiaaGreatDoorRows
import GoSem.ClaimSeven
namespace Go.Proofs.YtdklogmmfnddiaaGreatDoor
namespace Rows

/-- THE TIED CARD OF 'laws.FnTellDescribeConfigsRequest'. -/
def fnTellDescribeConfigsRequestCard : Claim7 := { stood := { row := fnTellDescribeConfigsRequestRow, standIns := [], harness := (true, "7ce6f37edb262bd1878e2be2aaeb87cf2e414a1a67db54abb5ab6ab339879059"), looks := false }, kinds := [], alts := [], laidByText := true, laidKinds := [.sentinel], laidTests := true, laidLooks := .later }
def FnTellDescribeConfigsRequestCardSaid : Prop := Claim7.holds Tryz.pinned (.plain (OpenSpec.ofChange fnTellDescribeConfigsRequestSpec)) fnTellDescribeConfigsRequestCard

/-- THE TIED CARD OF 'laws.FnTellAlterUserSCRAMCredentialsRequest'. -/
def fnTellAlterUserSCRAMCredentialsRequestCard : Claim7 := { stood := { row := fnTellAlterUserSCRAMCredentialsRequestRow, standIns := [], harness := (true, "7ce6f37edb262bd1878e2be2aaeb87cf2e414a1a67db54abb5ab6ab339879059"), looks := false }, kinds := [], alts := [], laidByText := true, laidKinds := [.sentinel], laidTests := true, laidLooks := .later }
def FnTellAlterUserSCRAMCredentialsRequestCardSaid : Prop := Claim7.holds Tryz.pinned (.plain (OpenSpec.ofChange fnTellAlterUserSCRAMCredentialsRequestSpec)) fnTellAlterUserSCRAMCredentialsRequestCard

/-- THE TIED CARD OF 'laws.FnTellDescribeDelegationTokenResponse'. -/
def fnTellDescribeDelegationTokenResponseCard : Claim7 := { stood := { row := fnTellDescribeDelegationTokenResponseRow, standIns := [], harness := (true, "7ce6f37edb262bd1878e2be2aaeb87cf2e414a1a67db54abb5ab6ab339879059"), looks := false }, kinds := [], alts := [], laidByText := true, laidKinds := [.sentinel], laidTests := true, laidLooks := .later }
def FnTellDescribeDelegationTokenResponseCardSaid : Prop := Claim7.holds Tryz.pinned (.plain (OpenSpec.ofChange fnTellDescribeDelegationTokenResponseSpec)) fnTellDescribeDelegationTokenResponseCard

/-- THE SECOND FORM's CARD OF 'laws.FnTellDescribeConfigsRequest'. -/
def fnTellDescribeConfigsRequestUptoCard : Claim7 := { stood := { row := fnTellDescribeConfigsRequestUptoRow, standIns := [], harness := (true, "7ce6f37edb262bd1878e2be2aaeb87cf2e414a1a67db54abb5ab6ab339879059"), looks := false }, kinds := [], alts := [], laidByText := true, laidKinds := [.sentinel], laidTests := true, laidLooks := .later }
def FnTellDescribeConfigsRequestUptoCardSaid : Prop := Claim7.holds Tryz.pinned (.plain (OpenSpec.upto fnTellDescribeConfigsRequestSpec)) fnTellDescribeConfigsRequestUptoCard

/-- THE SECOND FORM's CARD OF 'laws.FnTellAlterUserSCRAMCredentialsRequest'. -/
def fnTellAlterUserSCRAMCredentialsRequestUptoCard : Claim7 := { stood := { row := fnTellAlterUserSCRAMCredentialsRequestUptoRow, standIns := [], harness := (true, "7ce6f37edb262bd1878e2be2aaeb87cf2e414a1a67db54abb5ab6ab339879059"), looks := false }, kinds := [], alts := [], laidByText := true, laidKinds := [.sentinel], laidTests := true, laidLooks := .later }
def FnTellAlterUserSCRAMCredentialsRequestUptoCardSaid : Prop := Claim7.holds Tryz.pinned (.plain (OpenSpec.upto fnTellAlterUserSCRAMCredentialsRequestSpec)) fnTellAlterUserSCRAMCredentialsRequestUptoCard

/-- THE SECOND FORM's CARD OF 'laws.FnTellDescribeDelegationTokenResponse'. -/
def fnTellDescribeDelegationTokenResponseUptoCard : Claim7 := { stood := { row := fnTellDescribeDelegationTokenResponseUptoRow, standIns := [], harness := (true, "7ce6f37edb262bd1878e2be2aaeb87cf2e414a1a67db54abb5ab6ab339879059"), looks := false }, kinds := [], alts := [], laidByText := true, laidKinds := [.sentinel], laidTests := true, laidLooks := .later }
def FnTellDescribeDelegationTokenResponseUptoCardSaid : Prop := Claim7.holds Tryz.pinned (.plain (OpenSpec.upto fnTellDescribeDelegationTokenResponseSpec)) fnTellDescribeDelegationTokenResponseUptoCard
end Rows
end Go.Proofs.YtdklogmmfnddiaaGreatDoor
