/-
  DERIVED. GIVEN WITH THE SEED: THE CARDS: each row of YtbdlilalihgdeaaDoorRows.lean that lists a variable, with what it lists TIED to the program's text (the seventh form; the later family's looks); each row that meets fmt, with fmt's text TOLD by the authors' own Lean function (tested against real Go, not proved from fmt's source: count such statements apart). THE CARD IS WHAT COUNTS. Prove the row's statement (the work); the ties are given (YtbdlilalihgdeaaDoorTie.lean); close each card by the builder's one call (the guide's Derived/Test/ToyasCard.lean, 'card_holds'). Laid BY PROGRAM, IN A SANDBOX (cutbox-door.mjs). By AI agents, Wed Nov 11 2026. No macro, syntax, notation, axiom, sorry.
-/
import Derived.Test.YtbdlilalihgdeaaDoorRows
import GoSem.ClaimSeven
namespace Go.Proofs.YtbdlilalihgdeaaDoor
namespace Rows

/-- THE TIED CARD OF 'laws.FnBehindSASLHandshakeRequest'. -/
def fnBehindSASLHandshakeRequestCard : Claim7 := { stood := { row := fnBehindSASLHandshakeRequestRow, standIns := [], harness := (true, "e3fcccdcb3ad561ce2a6e927b9f3c8de850b63eeaec9a1ec47a95a4eadefb52f"), looks := false }, kinds := [], alts := [], laidByText := true, laidKinds := [.sentinel], laidTests := true, laidLooks := .later }
def FnBehindSASLHandshakeRequestCardSaid : Prop := Claim7.holds Tryd.pinned (.plain (OpenSpec.ofChange fnBehindSASLHandshakeRequestSpec)) fnBehindSASLHandshakeRequestCard

/-- THE SECOND FORM's CARD OF 'laws.FnBehindSASLHandshakeRequest'. -/
def fnBehindSASLHandshakeRequestUptoCard : Claim7 := { stood := { row := fnBehindSASLHandshakeRequestUptoRow, standIns := [], harness := (true, "e3fcccdcb3ad561ce2a6e927b9f3c8de850b63eeaec9a1ec47a95a4eadefb52f"), looks := false }, kinds := [], alts := [], laidByText := true, laidKinds := [.sentinel], laidTests := true, laidLooks := .later }
def FnBehindSASLHandshakeRequestUptoCardSaid : Prop := Claim7.holds Tryd.pinned (.plain (OpenSpec.upto fnBehindSASLHandshakeRequestSpec)) fnBehindSASLHandshakeRequestUptoCard
end Rows
end Go.Proofs.YtbdlilalihgdeaaDoor
