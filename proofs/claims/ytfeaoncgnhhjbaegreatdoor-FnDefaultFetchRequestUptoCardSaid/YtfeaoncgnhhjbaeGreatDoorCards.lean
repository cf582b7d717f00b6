/-
  DERIVED. GIVEN WITH THE SEED: THE CARDS: each row of YtfeaoncgnhhjbaeGreatDoorRows.lean that lists a variable, with what it lists TIED to the program's text (the seventh form; the later family's looks); each row that meets fmt, with fmt's text TOLD by the authors' own Lean function (tested against real Go, not proved from fmt's source: count such statements apart). THE CARD IS WHAT COUNTS. Prove the row's statement (the work); the ties are given (YtfeaoncgnhhjbaeGreatDoorTie.lean); close each card by the builder's one call (the guide's Derived/Test/ToyasCard.lean, 'card_holds'). Laid BY PROGRAM, IN A SANDBOX (cutbox-door.mjs). By AI agents, Wed Nov 11 2026. No macro, syntax, notation, axiom, sorry.
-/
import Derived.Test.YtfeaoncgnhhjbaeGreatDoorRows
import GoSem.ClaimSeven
namespace Go.Proofs.YtfeaoncgnhhjbaeGreatDoor
namespace Rows

/-- THE TIED CARD OF 'laws.FnDefaultFetchRequest'. -/
def fnDefaultFetchRequestCard : Claim7 := { stood := { row := fnDefaultFetchRequestRow, standIns := [], harness := (true, "1929c1817a29cd80dfc9f671c3670170fee423a85edacf364d8ae99444368c63"), looks := false }, kinds := [], alts := [], laidByText := true, laidKinds := [.sentinel], laidTests := true, laidLooks := .later }
def FnDefaultFetchRequestCardSaid : Prop := Claim7.holds Tryz.pinned (.plain (OpenSpec.ofChange fnDefaultFetchRequestSpec)) fnDefaultFetchRequestCard

/-- THE SECOND FORM's CARD OF 'laws.FnDefaultFetchRequest'. -/
def fnDefaultFetchRequestUptoCard : Claim7 := { stood := { row := fnDefaultFetchRequestUptoRow, standIns := [], harness := (true, "1929c1817a29cd80dfc9f671c3670170fee423a85edacf364d8ae99444368c63"), looks := false }, kinds := [], alts := [], laidByText := true, laidKinds := [.sentinel], laidTests := true, laidLooks := .later }
def FnDefaultFetchRequestUptoCardSaid : Prop := Claim7.holds Tryz.pinned (.plain (OpenSpec.upto fnDefaultFetchRequestSpec)) fnDefaultFetchRequestUptoCard
end Rows
end Go.Proofs.YtfeaoncgnhhjbaeGreatDoor
