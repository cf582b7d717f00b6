/-
  DERIVED. GIVEN WITH THE SEED: THE CARDS: each row of YtkoeaaababfjkaaDoorRows.lean that lists a variable, with what it lists TIED to the program's text (the seventh form; the later family's looks); each row that meets fmt, with fmt's text TOLD by the authors' own Lean function (tested against real Go, not proved from fmt's source: count such statements apart). THE CARD IS WHAT COUNTS. Prove the row's statement (the work); the ties are given (YtkoeaaababfjkaaDoorTie.lean); close each card by the builder's one call (the guide's Derived/Test/ToyasCard.lean, 'card_holds'). Laid BY PROGRAM, IN A SANDBOX (cutbox-door.mjs). By AI agents, Wed Nov 11 2026. No macro, syntax, notation, axiom, sorry.
-/
import Derived.Test.YtkoeaaababfjkaaDoorRows
import GoSem.ClaimSeven
namespace Go.Proofs.YtkoeaaababfjkaaDoor
namespace Rows

/-- THE TIED CARD OF 'laws.FnBehindGetTelemetrySubscriptionsRequest'. -/
def fnBehindGetTelemetrySubscriptionsRequestCard : Claim7 := { stood := { row := fnBehindGetTelemetrySubscriptionsRequestRow, standIns := [], harness := (true, "6e3e39142e46a7cf613209530404cc379100a4ab082c69b9fabc6afd7552362f"), looks := false }, kinds := [], alts := [], laidByText := true, laidKinds := [.sentinel], laidTests := true, laidLooks := .later }
def FnBehindGetTelemetrySubscriptionsRequestCardSaid : Prop := Claim7.holds Tryd.pinned (.plain (OpenSpec.ofChange fnBehindGetTelemetrySubscriptionsRequestSpec)) fnBehindGetTelemetrySubscriptionsRequestCard

/-- THE TIED CARD OF 'laws.FnBehindUnregisterControllerRequest'. -/
def fnBehindUnregisterControllerRequestCard : Claim7 := { stood := { row := fnBehindUnregisterControllerRequestRow, standIns := [], harness := (true, "6e3e39142e46a7cf613209530404cc379100a4ab082c69b9fabc6afd7552362f"), looks := false }, kinds := [], alts := [], laidByText := true, laidKinds := [.sentinel], laidTests := true, laidLooks := .later }
def FnBehindUnregisterControllerRequestCardSaid : Prop := Claim7.holds Tryd.pinned (.plain (OpenSpec.ofChange fnBehindUnregisterControllerRequestSpec)) fnBehindUnregisterControllerRequestCard

/-- THE TIED CARD OF 'laws.FnBehindHeartbeatResponse'. -/
def fnBehindHeartbeatResponseCard : Claim7 := { stood := { row := fnBehindHeartbeatResponseRow, standIns := [], harness := (true, "6e3e39142e46a7cf613209530404cc379100a4ab082c69b9fabc6afd7552362f"), looks := false }, kinds := [], alts := [], laidByText := true, laidKinds := [.sentinel], laidTests := true, laidLooks := .later }
def FnBehindHeartbeatResponseCardSaid : Prop := Claim7.holds Tryd.pinned (.plain (OpenSpec.ofChange fnBehindHeartbeatResponseSpec)) fnBehindHeartbeatResponseCard

/-- THE TIED CARD OF 'laws.FnBehindRenewDelegationTokenResponse'. -/
def fnBehindRenewDelegationTokenResponseCard : Claim7 := { stood := { row := fnBehindRenewDelegationTokenResponseRow, standIns := [], harness := (true, "6e3e39142e46a7cf613209530404cc379100a4ab082c69b9fabc6afd7552362f"), looks := false }, kinds := [], alts := [], laidByText := true, laidKinds := [.sentinel], laidTests := true, laidLooks := .later }
def FnBehindRenewDelegationTokenResponseCardSaid : Prop := Claim7.holds Tryd.pinned (.plain (OpenSpec.ofChange fnBehindRenewDelegationTokenResponseSpec)) fnBehindRenewDelegationTokenResponseCard

/-- THE TIED CARD OF 'laws.FnBehindEnvelopeResponse'. -/
def fnBehindEnvelopeResponseCard : Claim7 := { stood := { row := fnBehindEnvelopeResponseRow, standIns := [], harness := (true, "6e3e39142e46a7cf613209530404cc379100a4ab082c69b9fabc6afd7552362f"), looks := false }, kinds := [], alts := [], laidByText := true, laidKinds := [.sentinel], laidTests := true, laidLooks := .later }
def FnBehindEnvelopeResponseCardSaid : Prop := Claim7.holds Tryd.pinned (.plain (OpenSpec.ofChange fnBehindEnvelopeResponseSpec)) fnBehindEnvelopeResponseCard

/-- THE SECOND FORM's CARD OF 'laws.FnBehindGetTelemetrySubscriptionsRequest'. -/
def fnBehindGetTelemetrySubscriptionsRequestUptoCard : Claim7 := { stood := { row := fnBehindGetTelemetrySubscriptionsRequestUptoRow, standIns := [], harness := (true, "6e3e39142e46a7cf613209530404cc379100a4ab082c69b9fabc6afd7552362f"), looks := false }, kinds := [], alts := [], laidByText := true, laidKinds := [.sentinel], laidTests := true, laidLooks := .later }
def FnBehindGetTelemetrySubscriptionsRequestUptoCardSaid : Prop := Claim7.holds Tryd.pinned (.plain (OpenSpec.upto fnBehindGetTelemetrySubscriptionsRequestSpec)) fnBehindGetTelemetrySubscriptionsRequestUptoCard

/-- THE SECOND FORM's CARD OF 'laws.FnBehindUnregisterControllerRequest'. -/
def fnBehindUnregisterControllerRequestUptoCard : Claim7 := { stood := { row := fnBehindUnregisterControllerRequestUptoRow, standIns := [], harness := (true, "6e3e39142e46a7cf613209530404cc379100a4ab082c69b9fabc6afd7552362f"), looks := false }, kinds := [], alts := [], laidByText := true, laidKinds := [.sentinel], laidTests := true, laidLooks := .later }
def FnBehindUnregisterControllerRequestUptoCardSaid : Prop := Claim7.holds Tryd.pinned (.plain (OpenSpec.upto fnBehindUnregisterControllerRequestSpec)) fnBehindUnregisterControllerRequestUptoCard

/-- THE SECOND FORM's CARD OF 'laws.FnBehindHeartbeatResponse'. -/
def fnBehindHeartbeatResponseUptoCard : Claim7 := { stood := { row := fnBehindHeartbeatResponseUptoRow, standIns := [], harness := (true, "6e3e39142e46a7cf613209530404cc379100a4ab082c69b9fabc6afd7552362f"), looks := false }, kinds := [], alts := [], laidByText := true, laidKinds := [.sentinel], laidTests := true, laidLooks := .later }
def FnBehindHeartbeatResponseUptoCardSaid : Prop := Claim7.holds Tryd.pinned (.plain (OpenSpec.upto fnBehindHeartbeatResponseSpec)) fnBehindHeartbeatResponseUptoCard

/-- THE SECOND FORM's CARD OF 'laws.FnBehindRenewDelegationTokenResponse'. -/
def fnBehindRenewDelegationTokenResponseUptoCard : Claim7 := { stood := { row := fnBehindRenewDelegationTokenResponseUptoRow, standIns := [], harness := (true, "6e3e39142e46a7cf613209530404cc379100a4ab082c69b9fabc6afd7552362f"), looks := false }, kinds := [], alts := [], laidByText := true, laidKinds := [.sentinel], laidTests := true, laidLooks := .later }
def FnBehindRenewDelegationTokenResponseUptoCardSaid : Prop := Claim7.holds Tryd.pinned (.plain (OpenSpec.upto fnBehindRenewDelegationTokenResponseSpec)) fnBehindRenewDelegationTokenResponseUptoCard

/-- THE SECOND FORM's CARD OF 'laws.FnBehindEnvelopeResponse'. -/
def fnBehindEnvelopeResponseUptoCard : Claim7 := { stood := { row := fnBehindEnvelopeResponseUptoRow, standIns := [], harness := (true, "6e3e39142e46a7cf613209530404cc379100a4ab082c69b9fabc6afd7552362f"), looks := false }, kinds := [], alts := [], laidByText := true, laidKinds := [.sentinel], laidTests := true, laidLooks := .later }
def FnBehindEnvelopeResponseUptoCardSaid : Prop := Claim7.holds Tryd.pinned (.plain (OpenSpec.upto fnBehindEnvelopeResponseSpec)) fnBehindEnvelopeResponseUptoCard
end Rows
end Go.Proofs.YtkoeaaababfjkaaDoor
