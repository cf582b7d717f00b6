/-
  DERIVED. GIVEN WITH THE SEED: THE CARDS: each row of YtmkpongjkjdcaaaGreatDoorRows.lean that lists a variable, with what it lists TIED to the program's text (the seventh form; the later family's looks); each row that meets fmt, with fmt's text TOLD by the authors' own Lean function (tested against real Go, not proved from fmt's source: count such statements apart). THE CARD IS WHAT COUNTS. Prove the row's statement (the work); the ties are given (YtmkpongjkjdcaaaGreatDoorTie.lean); close each card by the builder's one call (the guide's Derived/Test/ToyasCard.lean, 'card_holds'). Laid BY PROGRAM, IN A SANDBOX (cutbox-door.mjs). By AI agents, Wed Nov 11 2026. No macro, syntax, notation, axiom, sorry.
-/
import Derived.Test.YtmkpongjkjdcaaaGreatDoorRows
import GoSem.ClaimSeven
namespace Go.Proofs.YtmkpongjkjdcaaaGreatDoor
namespace Rows

/-- THE TIED CARD OF 'laws.FnFrameMetadataRequest'. -/
def fnFrameMetadataRequestCard : Claim7 := { stood := { row := fnFrameMetadataRequestRow, standIns := [], harness := (true, "3021119acf278dbbbef428f2aa9d5b95ae1ccbe41647e58a2e59e450ea03ba71"), looks := false }, kinds := [], alts := [], laidByText := true, laidKinds := [.sentinel], laidTests := true, laidLooks := .later }
def FnFrameMetadataRequestCardSaid : Prop := Claim7.holds Tryz.pinned (.plain (OpenSpec.ofChange fnFrameMetadataRequestSpec)) fnFrameMetadataRequestCard

/-- THE SECOND FORM's CARD OF 'laws.FnFrameMetadataRequest'. -/
def fnFrameMetadataRequestUptoCard : Claim7 := { stood := { row := fnFrameMetadataRequestUptoRow, standIns := [], harness := (true, "3021119acf278dbbbef428f2aa9d5b95ae1ccbe41647e58a2e59e450ea03ba71"), looks := false }, kinds := [], alts := [], laidByText := true, laidKinds := [.sentinel], laidTests := true, laidLooks := .later }
def FnFrameMetadataRequestUptoCardSaid : Prop := Claim7.holds Tryz.pinned (.plain (OpenSpec.upto fnFrameMetadataRequestSpec)) fnFrameMetadataRequestUptoCard
end Rows
end Go.Proofs.YtmkpongjkjdcaaaGreatDoor
