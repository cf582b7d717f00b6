/-
  DERIVED. GIVEN WITH THE SEED: THE CARDS: each row of YtbbhfngjfihndadDoorRows.lean that lists a variable, with what it lists TIED to the program's text (the seventh form; the later family's looks); each row that meets fmt, with fmt's text TOLD by the authors' own Lean function (tested against real Go, not proved from fmt's source: count such statements apart). THE CARD IS WHAT COUNTS. Prove the row's statement (the work); the ties are given (YtbbhfngjfihndadDoorTie.lean); close each card by the builder's one call (the guide's Derived/Test/ToyasCard.lean, 'card_holds'). Laid BY PROGRAM, IN A SANDBOX (cutbox-door.mjs). By AI agents, Wed Nov 11 2026. No macro, syntax, notation, axiom, sorry.
-/
import Derived.Test.YtbbhfngjfihndadDoorRows
import GoSem.ClaimSeven
namespace Go.Proofs.YtbbhfngjfihndadDoor
namespace Rows

/-- THE TIED CARD OF 'laws.FnUnsafeAlterPartitionRequest'. -/
def fnUnsafeAlterPartitionRequestCard : Claim7 := { stood := { row := fnUnsafeAlterPartitionRequestRow, standIns := [], harness := (true, "f085f288bd31e3314ded579ef6a9a2ed9b47647316a2a29d16e8e50f62368980"), looks := false }, kinds := [], alts := [], laidByText := true, laidKinds := [.sentinel], laidTests := true, laidLooks := .later }
def FnUnsafeAlterPartitionRequestCardSaid : Prop := Claim7.holds Tryd.pinned (.plain (OpenSpec.ofChange fnUnsafeAlterPartitionRequestSpec)) fnUnsafeAlterPartitionRequestCard

/-- THE SECOND FORM's CARD OF 'laws.FnUnsafeAlterPartitionRequest'. -/
def fnUnsafeAlterPartitionRequestUptoCard : Claim7 := { stood := { row := fnUnsafeAlterPartitionRequestUptoRow, standIns := [], harness := (true, "f085f288bd31e3314ded579ef6a9a2ed9b47647316a2a29d16e8e50f62368980"), looks := false }, kinds := [], alts := [], laidByText := true, laidKinds := [.sentinel], laidTests := true, laidLooks := .later }
def FnUnsafeAlterPartitionRequestUptoCardSaid : Prop := Claim7.holds Tryd.pinned (.plain (OpenSpec.upto fnUnsafeAlterPartitionRequestSpec)) fnUnsafeAlterPartitionRequestUptoCard
end Rows
end Go.Proofs.YtbbhfngjfihndadDoor
