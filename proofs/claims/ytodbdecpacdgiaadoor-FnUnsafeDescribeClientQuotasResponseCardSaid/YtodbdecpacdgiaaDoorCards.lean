/-
  DERIVED. GIVEN WITH THE SEED: THE CARDS: each row of YtodbdecpacdgiaaDoorRows.lean that lists a variable, with what it lists TIED to the program's text (the seventh form; the later family's looks); each row that meets fmt, with fmt's text TOLD by the authors' own Lean function (tested against real Go, not proved from fmt's source: count such statements apart). THE CARD IS WHAT COUNTS. Prove the row's statement (the work); the ties are given (YtodbdecpacdgiaaDoorTie.lean); close each card by the builder's one call (the guide's Derived/Test/ToyasCard.lean, 'card_holds'). Laid BY PROGRAM, IN A SANDBOX (cutbox-door.mjs). By AI agents, Wed Nov 11 2026. No macro, syntax, notation, axiom, sorry.
-/
import Derived.Test.YtodbdecpacdgiaaDoorRows
import GoSem.ClaimSeven
namespace Go.Proofs.YtodbdecpacdgiaaDoor
namespace Rows

/-- THE TIED CARD OF 'laws.FnUnsafeOffsetFetchRequest'. -/
def fnUnsafeOffsetFetchRequestCard : Claim7 := { stood := { row := fnUnsafeOffsetFetchRequestRow, standIns := [], harness := (true, "cf238eca765af31ddf5b0071954feccaf2db233524184a52587a392ea3c1a82b"), looks := false }, kinds := [], alts := [], laidByText := true, laidKinds := [.sentinel], laidTests := true, laidLooks := .later }
def FnUnsafeOffsetFetchRequestCardSaid : Prop := Claim7.holds Tryd.pinned (.plain (OpenSpec.ofChange fnUnsafeOffsetFetchRequestSpec)) fnUnsafeOffsetFetchRequestCard

/-- THE TIED CARD OF 'laws.FnUnsafeDescribeProducersResponse'. -/
def fnUnsafeDescribeProducersResponseCard : Claim7 := { stood := { row := fnUnsafeDescribeProducersResponseRow, standIns := [], harness := (true, "cf238eca765af31ddf5b0071954feccaf2db233524184a52587a392ea3c1a82b"), looks := false }, kinds := [], alts := [], laidByText := true, laidKinds := [.sentinel], laidTests := true, laidLooks := .later }
def FnUnsafeDescribeProducersResponseCardSaid : Prop := Claim7.holds Tryd.pinned (.plain (OpenSpec.ofChange fnUnsafeDescribeProducersResponseSpec)) fnUnsafeDescribeProducersResponseCard

/-- THE TIED CARD OF 'laws.FnUnsafeSyncGroupRequest'. -/
def fnUnsafeSyncGroupRequestCard : Claim7 := { stood := { row := fnUnsafeSyncGroupRequestRow, standIns := [], harness := (true, "cf238eca765af31ddf5b0071954feccaf2db233524184a52587a392ea3c1a82b"), looks := false }, kinds := [], alts := [], laidByText := true, laidKinds := [.sentinel], laidTests := true, laidLooks := .later }
def FnUnsafeSyncGroupRequestCardSaid : Prop := Claim7.holds Tryd.pinned (.plain (OpenSpec.ofChange fnUnsafeSyncGroupRequestSpec)) fnUnsafeSyncGroupRequestCard

/-- THE TIED CARD OF 'laws.FnUnsafeAlterClientQuotasRequest'. -/
def fnUnsafeAlterClientQuotasRequestCard : Claim7 := { stood := { row := fnUnsafeAlterClientQuotasRequestRow, standIns := [], harness := (true, "cf238eca765af31ddf5b0071954feccaf2db233524184a52587a392ea3c1a82b"), looks := false }, kinds := [], alts := [], laidByText := true, laidKinds := [.sentinel], laidTests := true, laidLooks := .later }
def FnUnsafeAlterClientQuotasRequestCardSaid : Prop := Claim7.holds Tryd.pinned (.plain (OpenSpec.ofChange fnUnsafeAlterClientQuotasRequestSpec)) fnUnsafeAlterClientQuotasRequestCard

/-- THE TIED CARD OF 'laws.FnUnsafeDescribeClientQuotasResponse'. -/
def fnUnsafeDescribeClientQuotasResponseCard : Claim7 := { stood := { row := fnUnsafeDescribeClientQuotasResponseRow, standIns := [], harness := (true, "cf238eca765af31ddf5b0071954feccaf2db233524184a52587a392ea3c1a82b"), looks := false }, kinds := [], alts := [], laidByText := true, laidKinds := [.sentinel], laidTests := true, laidLooks := .later }
def FnUnsafeDescribeClientQuotasResponseCardSaid : Prop := Claim7.holds Tryd.pinned (.plain (OpenSpec.ofChange fnUnsafeDescribeClientQuotasResponseSpec)) fnUnsafeDescribeClientQuotasResponseCard

/-- THE SECOND FORM's CARD OF 'laws.FnUnsafeOffsetFetchRequest'. -/
def fnUnsafeOffsetFetchRequestUptoCard : Claim7 := { stood := { row := fnUnsafeOffsetFetchRequestUptoRow, standIns := [], harness := (true, "cf238eca765af31ddf5b0071954feccaf2db233524184a52587a392ea3c1a82b"), looks := false }, kinds := [], alts := [], laidByText := true, laidKinds := [.sentinel], laidTests := true, laidLooks := .later }
def FnUnsafeOffsetFetchRequestUptoCardSaid : Prop := Claim7.holds Tryd.pinned (.plain (OpenSpec.upto fnUnsafeOffsetFetchRequestSpec)) fnUnsafeOffsetFetchRequestUptoCard

/-- THE SECOND FORM's CARD OF 'laws.FnUnsafeDescribeProducersResponse'. -/
def fnUnsafeDescribeProducersResponseUptoCard : Claim7 := { stood := { row := fnUnsafeDescribeProducersResponseUptoRow, standIns := [], harness := (true, "cf238eca765af31ddf5b0071954feccaf2db233524184a52587a392ea3c1a82b"), looks := false }, kinds := [], alts := [], laidByText := true, laidKinds := [.sentinel], laidTests := true, laidLooks := .later }
def FnUnsafeDescribeProducersResponseUptoCardSaid : Prop := Claim7.holds Tryd.pinned (.plain (OpenSpec.upto fnUnsafeDescribeProducersResponseSpec)) fnUnsafeDescribeProducersResponseUptoCard

/-- THE SECOND FORM's CARD OF 'laws.FnUnsafeSyncGroupRequest'. -/
def fnUnsafeSyncGroupRequestUptoCard : Claim7 := { stood := { row := fnUnsafeSyncGroupRequestUptoRow, standIns := [], harness := (true, "cf238eca765af31ddf5b0071954feccaf2db233524184a52587a392ea3c1a82b"), looks := false }, kinds := [], alts := [], laidByText := true, laidKinds := [.sentinel], laidTests := true, laidLooks := .later }
def FnUnsafeSyncGroupRequestUptoCardSaid : Prop := Claim7.holds Tryd.pinned (.plain (OpenSpec.upto fnUnsafeSyncGroupRequestSpec)) fnUnsafeSyncGroupRequestUptoCard

/-- THE SECOND FORM's CARD OF 'laws.FnUnsafeAlterClientQuotasRequest'. -/
def fnUnsafeAlterClientQuotasRequestUptoCard : Claim7 := { stood := { row := fnUnsafeAlterClientQuotasRequestUptoRow, standIns := [], harness := (true, "cf238eca765af31ddf5b0071954feccaf2db233524184a52587a392ea3c1a82b"), looks := false }, kinds := [], alts := [], laidByText := true, laidKinds := [.sentinel], laidTests := true, laidLooks := .later }
def FnUnsafeAlterClientQuotasRequestUptoCardSaid : Prop := Claim7.holds Tryd.pinned (.plain (OpenSpec.upto fnUnsafeAlterClientQuotasRequestSpec)) fnUnsafeAlterClientQuotasRequestUptoCard

/-- THE SECOND FORM's CARD OF 'laws.FnUnsafeDescribeClientQuotasResponse'. -/
def fnUnsafeDescribeClientQuotasResponseUptoCard : Claim7 := { stood := { row := fnUnsafeDescribeClientQuotasResponseUptoRow, standIns := [], harness := (true, "cf238eca765af31ddf5b0071954feccaf2db233524184a52587a392ea3c1a82b"), looks := false }, kinds := [], alts := [], laidByText := true, laidKinds := [.sentinel], laidTests := true, laidLooks := .later }
def FnUnsafeDescribeClientQuotasResponseUptoCardSaid : Prop := Claim7.holds Tryd.pinned (.plain (OpenSpec.upto fnUnsafeDescribeClientQuotasResponseSpec)) fnUnsafeDescribeClientQuotasResponseUptoCard
end Rows
end Go.Proofs.YtodbdecpacdgiaaDoor
