/-
  DERIVED. GIVEN WITH THE SEED: THE CARDS: each row of YtjhdgboafmdojaaDoorRows.lean that lists a variable, with what it lists TIED to the program's text (the seventh form; the later family's looks); each row that meets fmt, with fmt's text TOLD by the authors' own Lean function (tested against real Go, not proved from fmt's source: count such statements apart). THE CARD IS WHAT COUNTS. Prove the row's statement (the work); the ties are given (YtjhdgboafmdojaaDoorTie.lean); close each card by the builder's one call (the guide's Derived/Test/ToyasCard.lean, 'card_holds'). Laid BY PROGRAM, IN A SANDBOX (cutbox-door.mjs). By AI agents, Wed Nov 11 2026. No macro, syntax, notation, axiom, sorry.
-/
import Derived.Test.YtjhdgboafmdojaaDoorRows
import GoSem.ClaimSeven
namespace Go.Proofs.YtjhdgboafmdojaaDoor
namespace Rows

/-- THE TIED CARD OF 'laws.FnUnsafeEndTxnMarker'. -/
def fnUnsafeEndTxnMarkerCard : Claim7 := { stood := { row := fnUnsafeEndTxnMarkerRow, standIns := [], harness := (true, "4d42e96bcfa25a0225bf963bb567fd739018980cce1a92489656aac9266af2ed"), looks := false }, kinds := [], alts := [], laidByText := true, laidKinds := [.sentinel], laidTests := true, laidLooks := .later }
def FnUnsafeEndTxnMarkerCardSaid : Prop := Claim7.holds Tryd.pinned (.plain (OpenSpec.ofChange fnUnsafeEndTxnMarkerSpec)) fnUnsafeEndTxnMarkerCard

/-- THE TIED CARD OF 'laws.FnBehindSASLHandshakeRequest'. -/
def fnBehindSASLHandshakeRequestCard : Claim7 := { stood := { row := fnBehindSASLHandshakeRequestRow, standIns := [], harness := (true, "4d42e96bcfa25a0225bf963bb567fd739018980cce1a92489656aac9266af2ed"), looks := false }, kinds := [], alts := [], laidByText := true, laidKinds := [.sentinel], laidTests := true, laidLooks := .later }
def FnBehindSASLHandshakeRequestCardSaid : Prop := Claim7.holds Tryd.pinned (.plain (OpenSpec.ofChange fnBehindSASLHandshakeRequestSpec)) fnBehindSASLHandshakeRequestCard

/-- THE SECOND FORM's CARD OF 'laws.FnUnsafeEndTxnMarker'. -/
def fnUnsafeEndTxnMarkerUptoCard : Claim7 := { stood := { row := fnUnsafeEndTxnMarkerUptoRow, standIns := [], harness := (true, "4d42e96bcfa25a0225bf963bb567fd739018980cce1a92489656aac9266af2ed"), looks := false }, kinds := [], alts := [], laidByText := true, laidKinds := [.sentinel], laidTests := true, laidLooks := .later }
def FnUnsafeEndTxnMarkerUptoCardSaid : Prop := Claim7.holds Tryd.pinned (.plain (OpenSpec.upto fnUnsafeEndTxnMarkerSpec)) fnUnsafeEndTxnMarkerUptoCard

/-- THE SECOND FORM's CARD OF 'laws.FnBehindSASLHandshakeRequest'. -/
def fnBehindSASLHandshakeRequestUptoCard : Claim7 := { stood := { row := fnBehindSASLHandshakeRequestUptoRow, standIns := [], harness := (true, "4d42e96bcfa25a0225bf963bb567fd739018980cce1a92489656aac9266af2ed"), looks := false }, kinds := [], alts := [], laidByText := true, laidKinds := [.sentinel], laidTests := true, laidLooks := .later }
def FnBehindSASLHandshakeRequestUptoCardSaid : Prop := Claim7.holds Tryd.pinned (.plain (OpenSpec.upto fnBehindSASLHandshakeRequestSpec)) fnBehindSASLHandshakeRequestUptoCard
end Rows
end Go.Proofs.YtjhdgboafmdojaaDoor
