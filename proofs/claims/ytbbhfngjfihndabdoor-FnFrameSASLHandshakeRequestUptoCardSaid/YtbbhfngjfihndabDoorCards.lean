/-
  DERIVED. GIVEN WITH THE SEED: THE CARDS: each row of YtbbhfngjfihndabDoorRows.lean that lists a variable, with what it lists TIED to the program's text (the seventh form; the later family's looks); each row that meets fmt, with fmt's text TOLD by the authors' own Lean function (tested against real Go, not proved from fmt's source: count such statements apart). THE CARD IS WHAT COUNTS. Prove the row's statement (the work); the ties are given (YtbbhfngjfihndabDoorTie.lean); close each card by the builder's one call (the guide's Derived/Test/ToyasCard.lean, 'card_holds'). Laid BY PROGRAM, IN A SANDBOX (cutbox-door.mjs). By AI agents, Wed Nov 11 2026. No macro, syntax, notation, axiom, sorry.
-/
import Derived.Test.YtbbhfngjfihndabDoorRows
import GoSem.ClaimSeven
namespace Go.Proofs.YtbbhfngjfihndabDoor
namespace Rows

/-- THE TIED CARD OF 'laws.FnFrameSASLHandshakeRequest'. -/
def fnFrameSASLHandshakeRequestCard : Claim7 := { stood := { row := fnFrameSASLHandshakeRequestRow, standIns := [], harness := (true, "66ba9767cbede0bd37209355e74eebdc1955aee29f1dfb114b6cfc4518615ab1"), looks := false }, kinds := [], alts := [], laidByText := true, laidKinds := [.sentinel], laidTests := true, laidLooks := .later }
def FnFrameSASLHandshakeRequestCardSaid : Prop := Claim7.holds Tryd.pinned (.plain (OpenSpec.ofChange fnFrameSASLHandshakeRequestSpec)) fnFrameSASLHandshakeRequestCard

/-- THE SECOND FORM's CARD OF 'laws.FnFrameSASLHandshakeRequest'. -/
def fnFrameSASLHandshakeRequestUptoCard : Claim7 := { stood := { row := fnFrameSASLHandshakeRequestUptoRow, standIns := [], harness := (true, "66ba9767cbede0bd37209355e74eebdc1955aee29f1dfb114b6cfc4518615ab1"), looks := false }, kinds := [], alts := [], laidByText := true, laidKinds := [.sentinel], laidTests := true, laidLooks := .later }
def FnFrameSASLHandshakeRequestUptoCardSaid : Prop := Claim7.holds Tryd.pinned (.plain (OpenSpec.upto fnFrameSASLHandshakeRequestSpec)) fnFrameSASLHandshakeRequestUptoCard
end Rows
end Go.Proofs.YtbbhfngjfihndabDoor
