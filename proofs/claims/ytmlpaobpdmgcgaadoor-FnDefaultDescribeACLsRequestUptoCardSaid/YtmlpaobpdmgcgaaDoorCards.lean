/-
  DERIVED. GIVEN WITH THE SEED: THE CARDS: each row of YtmlpaobpdmgcgaaDoorRows.lean that lists a variable, with what it lists TIED to the program's text (the seventh form; the later family's looks); each row that meets fmt, with fmt's text TOLD by the authors' own Lean function (tested against real Go, not proved from fmt's source: count such statements apart). THE CARD IS WHAT COUNTS. Prove the row's statement (the work); the ties are given (YtmlpaobpdmgcgaaDoorTie.lean); close each card by the builder's one call (the guide's Derived/Test/ToyasCard.lean, 'card_holds'). Laid BY PROGRAM, IN A SANDBOX (cutbox-door.mjs). By AI agents, Wed Nov 11 2026. No macro, syntax, notation, axiom, sorry.
-/
import Derived.Test.YtmlpaobpdmgcgaaDoorRows
import GoSem.ClaimSeven
namespace Go.Proofs.YtmlpaobpdmgcgaaDoor
namespace Rows

/-- THE TIED CARD OF 'laws.FnTellBrokerRegistrationResponse'. -/
def fnTellBrokerRegistrationResponseCard : Claim7 := { stood := { row := fnTellBrokerRegistrationResponseRow, standIns := [], harness := (true, "13d463b315b21ffbe9e5173ba2615ff86e7f85f6f0338c6a1c1f853585ff0a05"), looks := false }, kinds := [], alts := [], laidByText := true, laidKinds := [.sentinel], laidTests := true, laidLooks := .later }
def FnTellBrokerRegistrationResponseCardSaid : Prop := Claim7.holds Tryd.pinned (.plain (OpenSpec.ofChange fnTellBrokerRegistrationResponseSpec)) fnTellBrokerRegistrationResponseCard

/-- THE TIED CARD OF 'laws.FnDefaultInitProducerIDRequest'. -/
def fnDefaultInitProducerIDRequestCard : Claim7 := { stood := { row := fnDefaultInitProducerIDRequestRow, standIns := [], harness := (true, "13d463b315b21ffbe9e5173ba2615ff86e7f85f6f0338c6a1c1f853585ff0a05"), looks := false }, kinds := [], alts := [], laidByText := true, laidKinds := [.sentinel], laidTests := true, laidLooks := .later }
def FnDefaultInitProducerIDRequestCardSaid : Prop := Claim7.holds Tryd.pinned (.plain (OpenSpec.ofChange fnDefaultInitProducerIDRequestSpec)) fnDefaultInitProducerIDRequestCard

/-- THE TIED CARD OF 'laws.FnTellListGroupsRequest'. -/
def fnTellListGroupsRequestCard : Claim7 := { stood := { row := fnTellListGroupsRequestRow, standIns := [], harness := (true, "13d463b315b21ffbe9e5173ba2615ff86e7f85f6f0338c6a1c1f853585ff0a05"), looks := false }, kinds := [], alts := [], laidByText := true, laidKinds := [.sentinel], laidTests := true, laidLooks := .later }
def FnTellListGroupsRequestCardSaid : Prop := Claim7.holds Tryd.pinned (.plain (OpenSpec.ofChange fnTellListGroupsRequestSpec)) fnTellListGroupsRequestCard

/-- THE TIED CARD OF 'laws.FnDefaultDescribeACLsRequest'. -/
def fnDefaultDescribeACLsRequestCard : Claim7 := { stood := { row := fnDefaultDescribeACLsRequestRow, standIns := [], harness := (true, "13d463b315b21ffbe9e5173ba2615ff86e7f85f6f0338c6a1c1f853585ff0a05"), looks := false }, kinds := [], alts := [], laidByText := true, laidKinds := [.sentinel], laidTests := true, laidLooks := .later }
def FnDefaultDescribeACLsRequestCardSaid : Prop := Claim7.holds Tryd.pinned (.plain (OpenSpec.ofChange fnDefaultDescribeACLsRequestSpec)) fnDefaultDescribeACLsRequestCard

/-- THE SECOND FORM's CARD OF 'laws.FnTellBrokerRegistrationResponse'. -/
def fnTellBrokerRegistrationResponseUptoCard : Claim7 := { stood := { row := fnTellBrokerRegistrationResponseUptoRow, standIns := [], harness := (true, "13d463b315b21ffbe9e5173ba2615ff86e7f85f6f0338c6a1c1f853585ff0a05"), looks := false }, kinds := [], alts := [], laidByText := true, laidKinds := [.sentinel], laidTests := true, laidLooks := .later }
def FnTellBrokerRegistrationResponseUptoCardSaid : Prop := Claim7.holds Tryd.pinned (.plain (OpenSpec.upto fnTellBrokerRegistrationResponseSpec)) fnTellBrokerRegistrationResponseUptoCard

/-- THE SECOND FORM's CARD OF 'laws.FnDefaultInitProducerIDRequest'. -/
def fnDefaultInitProducerIDRequestUptoCard : Claim7 := { stood := { row := fnDefaultInitProducerIDRequestUptoRow, standIns := [], harness := (true, "13d463b315b21ffbe9e5173ba2615ff86e7f85f6f0338c6a1c1f853585ff0a05"), looks := false }, kinds := [], alts := [], laidByText := true, laidKinds := [.sentinel], laidTests := true, laidLooks := .later }
def FnDefaultInitProducerIDRequestUptoCardSaid : Prop := Claim7.holds Tryd.pinned (.plain (OpenSpec.upto fnDefaultInitProducerIDRequestSpec)) fnDefaultInitProducerIDRequestUptoCard

/-- THE SECOND FORM's CARD OF 'laws.FnTellListGroupsRequest'. -/
def fnTellListGroupsRequestUptoCard : Claim7 := { stood := { row := fnTellListGroupsRequestUptoRow, standIns := [], harness := (true, "13d463b315b21ffbe9e5173ba2615ff86e7f85f6f0338c6a1c1f853585ff0a05"), looks := false }, kinds := [], alts := [], laidByText := true, laidKinds := [.sentinel], laidTests := true, laidLooks := .later }
def FnTellListGroupsRequestUptoCardSaid : Prop := Claim7.holds Tryd.pinned (.plain (OpenSpec.upto fnTellListGroupsRequestSpec)) fnTellListGroupsRequestUptoCard

/-- THE SECOND FORM's CARD OF 'laws.FnDefaultDescribeACLsRequest'. -/
def fnDefaultDescribeACLsRequestUptoCard : Claim7 := { stood := { row := fnDefaultDescribeACLsRequestUptoRow, standIns := [], harness := (true, "13d463b315b21ffbe9e5173ba2615ff86e7f85f6f0338c6a1c1f853585ff0a05"), looks := false }, kinds := [], alts := [], laidByText := true, laidKinds := [.sentinel], laidTests := true, laidLooks := .later }
def FnDefaultDescribeACLsRequestUptoCardSaid : Prop := Claim7.holds Tryd.pinned (.plain (OpenSpec.upto fnDefaultDescribeACLsRequestSpec)) fnDefaultDescribeACLsRequestUptoCard
end Rows
end Go.Proofs.YtmlpaobpdmgcgaaDoor
