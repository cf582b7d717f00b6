/-
  DERIVED. GIVEN WITH THE SEED: THE CARDS: each row of YtcicbihkpkbbnaaGreatDoorRows.lean that lists a variable, with what it lists TIED to the program's text (the seventh form; the later family's looks); each row that meets fmt, with fmt's text TOLD by the authors' own Lean function (tested against real Go, not proved from fmt's source: count such statements apart). THE CARD IS WHAT COUNTS. Prove the row's statement (the work); the ties are given (YtcicbihkpkbbnaaGreatDoorTie.lean); close each card by the builder's one call (the guide's Derived/Test/ToyasCard.lean, 'card_holds'). Laid BY PROGRAM, IN A SANDBOX (cutbox-door.mjs). By AI agents, Wed Nov 11 2026. No macro, syntax, notation, axiom, sorry.
-/
import Derived.Test.YtcicbihkpkbbnaaGreatDoorRows
import GoSem.ClaimSeven
namespace Go.Proofs.YtcicbihkpkbbnaaGreatDoor
namespace Rows

/-- THE TIED CARD OF 'laws.FnBehindDescribeProducersResponse'. -/
def fnBehindDescribeProducersResponseCard : Claim7 := { stood := { row := fnBehindDescribeProducersResponseRow, standIns := [], harness := (true, "d959f3169cc1f49385a39e86485ae9aed510e6f85391a9394a5686a683c9ab5b"), looks := false }, kinds := [], alts := [], laidByText := true, laidKinds := [.sentinel], laidTests := true, laidLooks := .later }
def FnBehindDescribeProducersResponseCardSaid : Prop := Claim7.holds Tryz.pinned (.plain (OpenSpec.ofChange fnBehindDescribeProducersResponseSpec)) fnBehindDescribeProducersResponseCard

/-- THE SECOND FORM's CARD OF 'laws.FnBehindDescribeProducersResponse'. -/
def fnBehindDescribeProducersResponseUptoCard : Claim7 := { stood := { row := fnBehindDescribeProducersResponseUptoRow, standIns := [], harness := (true, "d959f3169cc1f49385a39e86485ae9aed510e6f85391a9394a5686a683c9ab5b"), looks := false }, kinds := [], alts := [], laidByText := true, laidKinds := [.sentinel], laidTests := true, laidLooks := .later }
def FnBehindDescribeProducersResponseUptoCardSaid : Prop := Claim7.holds Tryz.pinned (.plain (OpenSpec.upto fnBehindDescribeProducersResponseSpec)) fnBehindDescribeProducersResponseUptoCard
end Rows
end Go.Proofs.YtcicbihkpkbbnaaGreatDoor
