/-
  DERIVED. GIVEN WITH THE SEED: THE CARDS: each row of YtlonfcgonpkobaaDoorRows.lean that lists a variable, with what it lists TIED to the program's text (the seventh form; the later family's looks); each row that meets fmt, with fmt's text TOLD by the authors' own Lean function (tested against real Go, not proved from fmt's source: count such statements apart). THE CARD IS WHAT COUNTS. Prove the row's statement (the work); the ties are given (YtlonfcgonpkobaaDoorTie.lean); close each card by the builder's one call (the guide's Derived/Test/ToyasCard.lean, 'card_holds'). Laid BY PROGRAM, IN A SANDBOX (cutbox-door.mjs). By AI agents, Wed Nov 11 2026. No macro, syntax, notation, axiom, sorry.
-/
import Derived.Test.YtlonfcgonpkobaaDoorRows
import GoSem.ClaimSeven
namespace Go.Proofs.YtlonfcgonpkobaaDoor
namespace Rows

/-- THE TIED CARD OF 'laws.FnUnsafeUpdateRaftVoterRequest'. -/
def fnUnsafeUpdateRaftVoterRequestCard : Claim7 := { stood := { row := fnUnsafeUpdateRaftVoterRequestRow, standIns := [], harness := (true, "ea3fab37bf01b17f7260e30beef6e6437f27f84798abf5148da2afe9e8b5f61c"), looks := false }, kinds := [], alts := [], laidByText := true, laidKinds := [.sentinel], laidTests := true, laidLooks := .later }
def FnUnsafeUpdateRaftVoterRequestCardSaid : Prop := Claim7.holds Tryd.pinned (.plain (OpenSpec.ofChange fnUnsafeUpdateRaftVoterRequestSpec)) fnUnsafeUpdateRaftVoterRequestCard

/-- THE SECOND FORM's CARD OF 'laws.FnUnsafeUpdateRaftVoterRequest'. -/
def fnUnsafeUpdateRaftVoterRequestUptoCard : Claim7 := { stood := { row := fnUnsafeUpdateRaftVoterRequestUptoRow, standIns := [], harness := (true, "ea3fab37bf01b17f7260e30beef6e6437f27f84798abf5148da2afe9e8b5f61c"), looks := false }, kinds := [], alts := [], laidByText := true, laidKinds := [.sentinel], laidTests := true, laidLooks := .later }
def FnUnsafeUpdateRaftVoterRequestUptoCardSaid : Prop := Claim7.holds Tryd.pinned (.plain (OpenSpec.upto fnUnsafeUpdateRaftVoterRequestSpec)) fnUnsafeUpdateRaftVoterRequestUptoCard
end Rows
end Go.Proofs.YtlonfcgonpkobaaDoor
