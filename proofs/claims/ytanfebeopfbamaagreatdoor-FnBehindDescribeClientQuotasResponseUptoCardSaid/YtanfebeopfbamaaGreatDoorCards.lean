/-
  DERIVED. GIVEN WITH THE SEED: THE CARDS: each row of YtanfebeopfbamaaGreatDoorRows.lean that lists a variable, with what it lists TIED to the program's text (the seventh form; the later family's looks); each row that meets fmt, with fmt's text TOLD by the authors' own Lean function (tested against real Go, not proved from fmt's source: count such statements apart). THE CARD IS WHAT COUNTS. Prove the row's statement (the work); the ties are given (YtanfebeopfbamaaGreatDoorTie.lean); close each card by the builder's one call (the guide's Derived/Test/ToyasCard.lean, 'card_holds'). Laid BY PROGRAM, IN A SANDBOX (cutbox-door.mjs). By AI agents, Wed Nov 11 2026. No macro, syntax, notation, axiom, sorry.
-/
import Derived.Test.YtanfebeopfbamaaGreatDoorRows
import GoSem.ClaimSeven
namespace Go.Proofs.YtanfebeopfbamaaGreatDoor
namespace Rows

/-- THE TIED CARD OF 'laws.FnBehindAlterClientQuotasRequest'. -/
def fnBehindAlterClientQuotasRequestCard : Claim7 := { stood := { row := fnBehindAlterClientQuotasRequestRow, standIns := [], harness := (true, "e38db1a8b8628e13abc433b2a636b44b2a579d8b8e98739fbe1f3546e5118195"), looks := false }, kinds := [], alts := [], laidByText := true, laidKinds := [.sentinel], laidTests := true, laidLooks := .later }
def FnBehindAlterClientQuotasRequestCardSaid : Prop := Claim7.holds Tryz.pinned (.plain (OpenSpec.ofChange fnBehindAlterClientQuotasRequestSpec)) fnBehindAlterClientQuotasRequestCard

/-- THE TIED CARD OF 'laws.FnBehindDescribeClientQuotasResponse'. -/
def fnBehindDescribeClientQuotasResponseCard : Claim7 := { stood := { row := fnBehindDescribeClientQuotasResponseRow, standIns := [], harness := (true, "e38db1a8b8628e13abc433b2a636b44b2a579d8b8e98739fbe1f3546e5118195"), looks := false }, kinds := [], alts := [], laidByText := true, laidKinds := [.sentinel], laidTests := true, laidLooks := .later }
def FnBehindDescribeClientQuotasResponseCardSaid : Prop := Claim7.holds Tryz.pinned (.plain (OpenSpec.ofChange fnBehindDescribeClientQuotasResponseSpec)) fnBehindDescribeClientQuotasResponseCard

/-- THE SECOND FORM's CARD OF 'laws.FnBehindAlterClientQuotasRequest'. -/
def fnBehindAlterClientQuotasRequestUptoCard : Claim7 := { stood := { row := fnBehindAlterClientQuotasRequestUptoRow, standIns := [], harness := (true, "e38db1a8b8628e13abc433b2a636b44b2a579d8b8e98739fbe1f3546e5118195"), looks := false }, kinds := [], alts := [], laidByText := true, laidKinds := [.sentinel], laidTests := true, laidLooks := .later }
def FnBehindAlterClientQuotasRequestUptoCardSaid : Prop := Claim7.holds Tryz.pinned (.plain (OpenSpec.upto fnBehindAlterClientQuotasRequestSpec)) fnBehindAlterClientQuotasRequestUptoCard

/-- THE SECOND FORM's CARD OF 'laws.FnBehindDescribeClientQuotasResponse'. -/
def fnBehindDescribeClientQuotasResponseUptoCard : Claim7 := { stood := { row := fnBehindDescribeClientQuotasResponseUptoRow, standIns := [], harness := (true, "e38db1a8b8628e13abc433b2a636b44b2a579d8b8e98739fbe1f3546e5118195"), looks := false }, kinds := [], alts := [], laidByText := true, laidKinds := [.sentinel], laidTests := true, laidLooks := .later }
def FnBehindDescribeClientQuotasResponseUptoCardSaid : Prop := Claim7.holds Tryz.pinned (.plain (OpenSpec.upto fnBehindDescribeClientQuotasResponseSpec)) fnBehindDescribeClientQuotasResponseUptoCard
end Rows
end Go.Proofs.YtanfebeopfbamaaGreatDoor
