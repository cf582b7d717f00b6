/-
  DERIVED. GIVEN WITH THE SEED: THE CARDS: each row of YtfeaoncgnhhjbacDoorRows.lean that lists a variable, with what it lists TIED to the program's text (the seventh form; the later family's looks); each row that meets fmt, with fmt's text TOLD by the authors' own Lean function (tested against real Go, not proved from fmt's source: count such statements apart). THE CARD IS WHAT COUNTS. Prove the row's statement (the work); the ties are given (YtfeaoncgnhhjbacDoorTie.lean); close each card by the builder's one call (the guide's Derived/Test/ToyasCard.lean, 'card_holds'). Laid BY PROGRAM, IN A SANDBOX (cutbox-door.mjs). By AI agents, Wed Nov 11 2026. No macro, syntax, notation, axiom, sorry.
-/
import Derived.Test.YtfeaoncgnhhjbacDoorRows
import GoSem.ClaimSeven
namespace Go.Proofs.YtfeaoncgnhhjbacDoor
namespace Rows

/-- THE TIED CARD OF 'laws.FnUnsafeOffsetCommitValue'. -/
def fnUnsafeOffsetCommitValueCard : Claim7 := { stood := { row := fnUnsafeOffsetCommitValueRow, standIns := [], harness := (true, "93a13dd80c5735651388d478ebf9fc651abcd31cccee4b41f823a6c86a069e67"), looks := false }, kinds := [], alts := [], laidByText := true, laidKinds := [.sentinel], laidTests := true, laidLooks := .later }
def FnUnsafeOffsetCommitValueCardSaid : Prop := Claim7.holds Tryd.pinned (.plain (OpenSpec.ofChange fnUnsafeOffsetCommitValueSpec)) fnUnsafeOffsetCommitValueCard

/-- THE SECOND FORM's CARD OF 'laws.FnUnsafeOffsetCommitValue'. -/
def fnUnsafeOffsetCommitValueUptoCard : Claim7 := { stood := { row := fnUnsafeOffsetCommitValueUptoRow, standIns := [], harness := (true, "93a13dd80c5735651388d478ebf9fc651abcd31cccee4b41f823a6c86a069e67"), looks := false }, kinds := [], alts := [], laidByText := true, laidKinds := [.sentinel], laidTests := true, laidLooks := .later }
def FnUnsafeOffsetCommitValueUptoCardSaid : Prop := Claim7.holds Tryd.pinned (.plain (OpenSpec.upto fnUnsafeOffsetCommitValueSpec)) fnUnsafeOffsetCommitValueUptoCard
end Rows
end Go.Proofs.YtfeaoncgnhhjbacDoor
