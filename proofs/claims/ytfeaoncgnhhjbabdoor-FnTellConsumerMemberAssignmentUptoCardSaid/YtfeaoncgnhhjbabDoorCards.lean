/-
  DERIVED. GIVEN WITH THE SEED: THE CARDS: each row of YtfeaoncgnhhjbabDoorRows.lean that lists a variable, with what it lists TIED to the program's text (the seventh form; the later family's looks); each row that meets fmt, with fmt's text TOLD by the authors' own Lean function (tested against real Go, not proved from fmt's source: count such statements apart). THE CARD IS WHAT COUNTS. Prove the row's statement (the work); the ties are given (YtfeaoncgnhhjbabDoorTie.lean); close each card by the builder's one call (the guide's Derived/Test/ToyasCard.lean, 'card_holds'). Laid BY PROGRAM, IN A SANDBOX (cutbox-door.mjs). By AI agents, Wed Nov 11 2026. No macro, syntax, notation, axiom, sorry.
-/
import Derived.Test.YtfeaoncgnhhjbabDoorRows
import GoSem.ClaimSeven
namespace Go.Proofs.YtfeaoncgnhhjbabDoor
namespace Rows

/-- THE TIED CARD OF 'laws.FnTellConsumerMemberAssignment'. -/
def fnTellConsumerMemberAssignmentCard : Claim7 := { stood := { row := fnTellConsumerMemberAssignmentRow, standIns := [], harness := (true, "c5f8e675e42b826d7f713989ef4be9d16f0b53361d73ca10e6f15c55e2ed289c"), looks := false }, kinds := [], alts := [], laidByText := true, laidKinds := [.sentinel], laidTests := true, laidLooks := .later }
def FnTellConsumerMemberAssignmentCardSaid : Prop := Claim7.holds Tryd.pinned (.plain (OpenSpec.ofChange fnTellConsumerMemberAssignmentSpec)) fnTellConsumerMemberAssignmentCard

/-- THE SECOND FORM's CARD OF 'laws.FnTellConsumerMemberAssignment'. -/
def fnTellConsumerMemberAssignmentUptoCard : Claim7 := { stood := { row := fnTellConsumerMemberAssignmentUptoRow, standIns := [], harness := (true, "c5f8e675e42b826d7f713989ef4be9d16f0b53361d73ca10e6f15c55e2ed289c"), looks := false }, kinds := [], alts := [], laidByText := true, laidKinds := [.sentinel], laidTests := true, laidLooks := .later }
def FnTellConsumerMemberAssignmentUptoCardSaid : Prop := Claim7.holds Tryd.pinned (.plain (OpenSpec.upto fnTellConsumerMemberAssignmentSpec)) fnTellConsumerMemberAssignmentUptoCard
end Rows
end Go.Proofs.YtfeaoncgnhhjbabDoor
