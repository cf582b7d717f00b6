/-
  DERIVED. GIVEN WITH THE SEED: THE CARDS: each row of YtbbhfngjfihndaaGreatDoorRows.lean that lists a variable, with what it lists TIED to the program's text (the seventh form; the later family's looks); each row that meets fmt, with fmt's text TOLD by the authors' own Lean function (tested against real Go, not proved from fmt's source: count such statements apart). THE CARD IS WHAT COUNTS. Prove the row's statement (the work); the ties are given (YtbbhfngjfihndaaGreatDoorTie.lean); close each card by the builder's one call (the guide's Derived/Test/ToyasCard.lean, 'card_holds'). Laid BY PROGRAM, IN A SANDBOX (cutbox-door.mjs). By AI agents, Wed Nov 11 2026. No macro, syntax, notation, axiom, sorry.
-/
import Derived.Test.YtbbhfngjfihndaaGreatDoorRows
import GoSem.ClaimSeven
namespace Go.Proofs.YtbbhfngjfihndaaGreatDoor
namespace Rows

/-- THE TIED CARD OF 'laws.FnFrameAddPartitionsToTxnRequest'. -/
def fnFrameAddPartitionsToTxnRequestCard : Claim7 := { stood := { row := fnFrameAddPartitionsToTxnRequestRow, standIns := [], harness := (true, "d169f5d817c0db42254f02860da8f38eb9ec348861ae590ab05f870d7c5cdd91"), looks := false }, kinds := [], alts := [], laidByText := true, laidKinds := [.sentinel], laidTests := true, laidLooks := .later }
def FnFrameAddPartitionsToTxnRequestCardSaid : Prop := Claim7.holds Tryz.pinned (.plain (OpenSpec.ofChange fnFrameAddPartitionsToTxnRequestSpec)) fnFrameAddPartitionsToTxnRequestCard

/-- THE SECOND FORM's CARD OF 'laws.FnFrameAddPartitionsToTxnRequest'. -/
def fnFrameAddPartitionsToTxnRequestUptoCard : Claim7 := { stood := { row := fnFrameAddPartitionsToTxnRequestUptoRow, standIns := [], harness := (true, "d169f5d817c0db42254f02860da8f38eb9ec348861ae590ab05f870d7c5cdd91"), looks := false }, kinds := [], alts := [], laidByText := true, laidKinds := [.sentinel], laidTests := true, laidLooks := .later }
def FnFrameAddPartitionsToTxnRequestUptoCardSaid : Prop := Claim7.holds Tryz.pinned (.plain (OpenSpec.upto fnFrameAddPartitionsToTxnRequestSpec)) fnFrameAddPartitionsToTxnRequestUptoCard
end Rows
end Go.Proofs.YtbbhfngjfihndaaGreatDoor
