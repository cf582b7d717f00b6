/-
  DERIVED. GIVEN WITH THE SEED: THE CARDS: each row of YtbbhfngjfihndacGreatDoorRows.lean that lists a variable, with what it lists TIED to the program's text (the seventh form; the later family's looks); each row that meets fmt, with fmt's text TOLD by the authors' own Lean function (tested against real Go, not proved from fmt's source: count such statements apart). THE CARD IS WHAT COUNTS. Prove the row's statement (the work); the ties are given (YtbbhfngjfihndacGreatDoorTie.lean); close each card by the builder's one call (the guide's Derived/Test/ToyasCard.lean, 'card_holds'). Laid BY PROGRAM, IN A SANDBOX (cutbox-door.mjs). By AI agents, Wed Nov 11 2026. No macro, syntax, notation, axiom, sorry.
-/
import Derived.Test.YtbbhfngjfihndacGreatDoorRows
import GoSem.ClaimSeven
namespace Go.Proofs.YtbbhfngjfihndacGreatDoor
namespace Rows

/-- THE TIED CARD OF 'laws.FnTellConsumerGroupHeartbeatRequest'. -/
def fnTellConsumerGroupHeartbeatRequestCard : Claim7 := { stood := { row := fnTellConsumerGroupHeartbeatRequestRow, standIns := [], harness := (true, "de264b5b0f6309634461b32ed8a2a761570e30371c46b474e8d82298c41aaac7"), looks := false }, kinds := [], alts := [], laidByText := true, laidKinds := [.sentinel], laidTests := true, laidLooks := .later }
def FnTellConsumerGroupHeartbeatRequestCardSaid : Prop := Claim7.holds Tryz.pinned (.plain (OpenSpec.ofChange fnTellConsumerGroupHeartbeatRequestSpec)) fnTellConsumerGroupHeartbeatRequestCard

/-- THE SECOND FORM's CARD OF 'laws.FnTellConsumerGroupHeartbeatRequest'. -/
def fnTellConsumerGroupHeartbeatRequestUptoCard : Claim7 := { stood := { row := fnTellConsumerGroupHeartbeatRequestUptoRow, standIns := [], harness := (true, "de264b5b0f6309634461b32ed8a2a761570e30371c46b474e8d82298c41aaac7"), looks := false }, kinds := [], alts := [], laidByText := true, laidKinds := [.sentinel], laidTests := true, laidLooks := .later }
def FnTellConsumerGroupHeartbeatRequestUptoCardSaid : Prop := Claim7.holds Tryz.pinned (.plain (OpenSpec.upto fnTellConsumerGroupHeartbeatRequestSpec)) fnTellConsumerGroupHeartbeatRequestUptoCard
end Rows
end Go.Proofs.YtbbhfngjfihndacGreatDoor
