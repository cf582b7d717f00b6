/-
  DERIVED. GIVEN WITH THE SEED: THE CARDS: each row of YtfeaoncgnhhjbaaGreatDoorRows.lean that lists a variable, with what it lists TIED to the program's text (the seventh form; the later family's looks); each row that meets fmt, with fmt's text TOLD by the authors' own Lean function (tested against real Go, not proved from fmt's source: count such statements apart). THE CARD IS WHAT COUNTS. Prove the row's statement (the work); the ties are given (YtfeaoncgnhhjbaaGreatDoorTie.lean); close each card by the builder's one call (the guide's Derived/Test/ToyasCard.lean, 'card_holds'). Laid BY PROGRAM, IN A SANDBOX (cutbox-door.mjs). By AI agents, Wed Nov 11 2026. No macro, syntax, notation, axiom, sorry.
-/
import Derived.Test.YtfeaoncgnhhjbaaGreatDoorRows
import GoSem.ClaimSeven
namespace Go.Proofs.YtfeaoncgnhhjbaaGreatDoor
namespace Rows

/-- THE TIED CARD OF 'laws.FnBehindDescribeTopicPartitionsResponse'. -/
def fnBehindDescribeTopicPartitionsResponseCard : Claim7 := { stood := { row := fnBehindDescribeTopicPartitionsResponseRow, standIns := [], harness := (true, "df327433540032246796e016de573c1e1cbe9a834f8c8fab9837ca5309680355"), looks := false }, kinds := [], alts := [], laidByText := true, laidKinds := [.sentinel], laidTests := true, laidLooks := .later }
def FnBehindDescribeTopicPartitionsResponseCardSaid : Prop := Claim7.holds Tryz.pinned (.plain (OpenSpec.ofChange fnBehindDescribeTopicPartitionsResponseSpec)) fnBehindDescribeTopicPartitionsResponseCard

/-- THE SECOND FORM's CARD OF 'laws.FnBehindDescribeTopicPartitionsResponse'. -/
def fnBehindDescribeTopicPartitionsResponseUptoCard : Claim7 := { stood := { row := fnBehindDescribeTopicPartitionsResponseUptoRow, standIns := [], harness := (true, "df327433540032246796e016de573c1e1cbe9a834f8c8fab9837ca5309680355"), looks := false }, kinds := [], alts := [], laidByText := true, laidKinds := [.sentinel], laidTests := true, laidLooks := .later }
def FnBehindDescribeTopicPartitionsResponseUptoCardSaid : Prop := Claim7.holds Tryz.pinned (.plain (OpenSpec.upto fnBehindDescribeTopicPartitionsResponseSpec)) fnBehindDescribeTopicPartitionsResponseUptoCard
end Rows
end Go.Proofs.YtfeaoncgnhhjbaaGreatDoor
