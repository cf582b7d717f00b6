/-
  DERIVED. GIVEN WITH THE SEED: THE CARDS: each row of YtpaofegplnfiiaaGreatDoorRows.lean that lists a variable, with what it lists TIED to the program's text (the seventh form; the later family's looks); each row that meets fmt, with fmt's text TOLD by the authors' own Lean function (tested against real Go, not proved from fmt's source: count such statements apart). THE CARD IS WHAT COUNTS. Prove the row's statement (the work); the ties are given (YtpaofegplnfiiaaGreatDoorTie.lean); close each card by the builder's one call (the guide's Derived/Test/ToyasCard.lean, 'card_holds'). Laid BY PROGRAM, IN A SANDBOX (cutbox-door.mjs). By AI agents, Wed Nov 11 2026. No macro, syntax, notation, axiom, sorry.
-/
import Derived.Test.YtpaofegplnfiiaaGreatDoorRows
import GoSem.ClaimSeven
namespace Go.Proofs.YtpaofegplnfiiaaGreatDoor
namespace Rows

/-- THE TIED CARD OF 'laws.FnTellVoteResponse'. -/
def fnTellVoteResponseCard : Claim7 := { stood := { row := fnTellVoteResponseRow, standIns := [], harness := (true, "0afdae57330979c635a5e5372c9e49fd076f6c5d0db16906a2b3cd45039aab70"), looks := false }, kinds := [], alts := [], laidByText := true, laidKinds := [.sentinel], laidTests := true, laidLooks := .later }
def FnTellVoteResponseCardSaid : Prop := Claim7.holds Tryz.pinned (.plain (OpenSpec.ofChange fnTellVoteResponseSpec)) fnTellVoteResponseCard

/-- THE TIED CARD OF 'laws.FnTellApiVersionsResponse'. -/
def fnTellApiVersionsResponseCard : Claim7 := { stood := { row := fnTellApiVersionsResponseRow, standIns := [], harness := (true, "0afdae57330979c635a5e5372c9e49fd076f6c5d0db16906a2b3cd45039aab70"), looks := false }, kinds := [], alts := [], laidByText := true, laidKinds := [.sentinel], laidTests := true, laidLooks := .later }
def FnTellApiVersionsResponseCardSaid : Prop := Claim7.holds Tryz.pinned (.plain (OpenSpec.ofChange fnTellApiVersionsResponseSpec)) fnTellApiVersionsResponseCard

/-- THE SECOND FORM's CARD OF 'laws.FnTellVoteResponse'. -/
def fnTellVoteResponseUptoCard : Claim7 := { stood := { row := fnTellVoteResponseUptoRow, standIns := [], harness := (true, "0afdae57330979c635a5e5372c9e49fd076f6c5d0db16906a2b3cd45039aab70"), looks := false }, kinds := [], alts := [], laidByText := true, laidKinds := [.sentinel], laidTests := true, laidLooks := .later }
def FnTellVoteResponseUptoCardSaid : Prop := Claim7.holds Tryz.pinned (.plain (OpenSpec.upto fnTellVoteResponseSpec)) fnTellVoteResponseUptoCard

/-- THE SECOND FORM's CARD OF 'laws.FnTellApiVersionsResponse'. -/
def fnTellApiVersionsResponseUptoCard : Claim7 := { stood := { row := fnTellApiVersionsResponseUptoRow, standIns := [], harness := (true, "0afdae57330979c635a5e5372c9e49fd076f6c5d0db16906a2b3cd45039aab70"), looks := false }, kinds := [], alts := [], laidByText := true, laidKinds := [.sentinel], laidTests := true, laidLooks := .later }
def FnTellApiVersionsResponseUptoCardSaid : Prop := Claim7.holds Tryz.pinned (.plain (OpenSpec.upto fnTellApiVersionsResponseSpec)) fnTellApiVersionsResponseUptoCard
end Rows
end Go.Proofs.YtpaofegplnfiiaaGreatDoor
