/-
  DERIVED. GIVEN WITH THE SEED: THE CARDS: each row of YtpaofegplnfiiaaDoorRows.lean that lists a variable, with what it lists TIED to the program's text (the seventh form; the later family's looks); each row that meets fmt, with fmt's text TOLD by the authors' own Lean function (tested against real Go, not proved from fmt's source: count such statements apart). THE CARD IS WHAT COUNTS. Prove the row's statement (the work); the ties are given (YtpaofegplnfiiaaDoorTie.lean); close each card by the builder's one call (the guide's Derived/Test/ToyasCard.lean, 'card_holds'). Laid BY PROGRAM, IN A SANDBOX (cutbox-door.mjs). By AI agents, Wed Nov 11 2026. No macro, syntax, notation, axiom, sorry.
-/
import Derived.Test.YtpaofegplnfiiaaDoorRows
import GoSem.ClaimSeven
namespace Go.Proofs.YtpaofegplnfiiaaDoor
namespace Rows

/-- THE TIED CARD OF 'laws.FnDefaultBrokerHeartbeatRequest'. -/
def fnDefaultBrokerHeartbeatRequestCard : Claim7 := { stood := { row := fnDefaultBrokerHeartbeatRequestRow, standIns := [], harness := (true, "2013ce6d50a945dda111695e551fd3d192bebad1b3865807228cd3bd144418e4"), looks := false }, kinds := [], alts := [], laidByText := true, laidKinds := [.sentinel], laidTests := true, laidLooks := .later }
def FnDefaultBrokerHeartbeatRequestCardSaid : Prop := Claim7.holds Tryd.pinned (.plain (OpenSpec.ofChange fnDefaultBrokerHeartbeatRequestSpec)) fnDefaultBrokerHeartbeatRequestCard

/-- THE SECOND FORM's CARD OF 'laws.FnDefaultBrokerHeartbeatRequest'. -/
def fnDefaultBrokerHeartbeatRequestUptoCard : Claim7 := { stood := { row := fnDefaultBrokerHeartbeatRequestUptoRow, standIns := [], harness := (true, "2013ce6d50a945dda111695e551fd3d192bebad1b3865807228cd3bd144418e4"), looks := false }, kinds := [], alts := [], laidByText := true, laidKinds := [.sentinel], laidTests := true, laidLooks := .later }
def FnDefaultBrokerHeartbeatRequestUptoCardSaid : Prop := Claim7.holds Tryd.pinned (.plain (OpenSpec.upto fnDefaultBrokerHeartbeatRequestSpec)) fnDefaultBrokerHeartbeatRequestUptoCard
end Rows
end Go.Proofs.YtpaofegplnfiiaaDoor
