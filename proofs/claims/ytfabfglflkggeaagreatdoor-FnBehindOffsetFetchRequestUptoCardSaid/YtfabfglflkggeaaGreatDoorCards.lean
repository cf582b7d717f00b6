/-
  DERIVED. GIVEN WITH THE SEED: THE CARDS: each row of YtfabfglflkggeaaGreatDoorRows.lean that lists a variable, with what it lists TIED to the program's text (the seventh form; the later family's looks); each row that meets fmt, with fmt's text TOLD by the authors' own Lean function (tested against real Go, not proved from fmt's source: count such statements apart). THE CARD IS WHAT COUNTS. Prove the row's statement (the work); the ties are given (YtfabfglflkggeaaGreatDoorTie.lean); close each card by the builder's one call (the guide's Derived/Test/ToyasCard.lean, 'card_holds'). Laid BY PROGRAM, IN A SANDBOX (cutbox-door.mjs). By AI agents, Wed Nov 11 2026. No macro, syntax, notation, axiom, sorry.
-/
import Derived.Test.YtfabfglflkggeaaGreatDoorRows
import GoSem.ClaimSeven
namespace Go.Proofs.YtfabfglflkggeaaGreatDoor
namespace Rows

/-- THE TIED CARD OF 'laws.FnBehindOffsetFetchRequest'. -/
def fnBehindOffsetFetchRequestCard : Claim7 := { stood := { row := fnBehindOffsetFetchRequestRow, standIns := [], harness := (true, "1a11f2ed06dfca012f00537b0c8d6039faf2bfa18db6d49221874c61f6d809db"), looks := false }, kinds := [], alts := [], laidByText := true, laidKinds := [.sentinel], laidTests := true, laidLooks := .later }
def FnBehindOffsetFetchRequestCardSaid : Prop := Claim7.holds Tryz.pinned (.plain (OpenSpec.ofChange fnBehindOffsetFetchRequestSpec)) fnBehindOffsetFetchRequestCard

/-- THE SECOND FORM's CARD OF 'laws.FnBehindOffsetFetchRequest'. -/
def fnBehindOffsetFetchRequestUptoCard : Claim7 := { stood := { row := fnBehindOffsetFetchRequestUptoRow, standIns := [], harness := (true, "1a11f2ed06dfca012f00537b0c8d6039faf2bfa18db6d49221874c61f6d809db"), looks := false }, kinds := [], alts := [], laidByText := true, laidKinds := [.sentinel], laidTests := true, laidLooks := .later }
def FnBehindOffsetFetchRequestUptoCardSaid : Prop := Claim7.holds Tryz.pinned (.plain (OpenSpec.upto fnBehindOffsetFetchRequestSpec)) fnBehindOffsetFetchRequestUptoCard
end Rows
end Go.Proofs.YtfabfglflkggeaaGreatDoor
