/-
  DERIVED. GIVEN WITH THE SEED: THE CARDS: each row of YtcicbihkpkbbnaaDoorRows.lean that lists a variable, with what it lists TIED to the program's text (the seventh form; the later family's looks); each row that meets fmt, with fmt's text TOLD by the authors' own Lean function (tested against real Go, not proved from fmt's source: count such statements apart). THE CARD IS WHAT COUNTS. Prove the row's statement (the work); the ties are given (YtcicbihkpkbbnaaDoorTie.lean); close each card by the builder's one call (the guide's Derived/Test/ToyasCard.lean, 'card_holds'). Laid BY PROGRAM, IN A SANDBOX (cutbox-door.mjs). By AI agents, Wed Nov 11 2026. No macro, syntax, notation, axiom, sorry.
-/
import Derived.Test.YtcicbihkpkbbnaaDoorRows
import GoSem.ClaimSeven
namespace Go.Proofs.YtcicbihkpkbbnaaDoor
namespace Rows

/-- THE TIED CARD OF 'laws.FnUnsafePushTelemetryRequest'. -/
def fnUnsafePushTelemetryRequestCard : Claim7 := { stood := { row := fnUnsafePushTelemetryRequestRow, standIns := [], harness := (true, "164c6cec9deb22457d25bf97cc1f7ae3b02a9cc7573cd167667088192e13b4f3"), looks := false }, kinds := [], alts := [], laidByText := true, laidKinds := [.sentinel], laidTests := true, laidLooks := .later }
def FnUnsafePushTelemetryRequestCardSaid : Prop := Claim7.holds Tryd.pinned (.plain (OpenSpec.ofChange fnUnsafePushTelemetryRequestSpec)) fnUnsafePushTelemetryRequestCard

/-- THE TIED CARD OF 'laws.FnDefaultInitProducerIDRequest'. -/
def fnDefaultInitProducerIDRequestCard : Claim7 := { stood := { row := fnDefaultInitProducerIDRequestRow, standIns := [], harness := (true, "164c6cec9deb22457d25bf97cc1f7ae3b02a9cc7573cd167667088192e13b4f3"), looks := false }, kinds := [], alts := [], laidByText := true, laidKinds := [.sentinel], laidTests := true, laidLooks := .later }
def FnDefaultInitProducerIDRequestCardSaid : Prop := Claim7.holds Tryd.pinned (.plain (OpenSpec.ofChange fnDefaultInitProducerIDRequestSpec)) fnDefaultInitProducerIDRequestCard

/-- THE TIED CARD OF 'laws.FnDefaultDescribeACLsRequest'. -/
def fnDefaultDescribeACLsRequestCard : Claim7 := { stood := { row := fnDefaultDescribeACLsRequestRow, standIns := [], harness := (true, "164c6cec9deb22457d25bf97cc1f7ae3b02a9cc7573cd167667088192e13b4f3"), looks := false }, kinds := [], alts := [], laidByText := true, laidKinds := [.sentinel], laidTests := true, laidLooks := .later }
def FnDefaultDescribeACLsRequestCardSaid : Prop := Claim7.holds Tryd.pinned (.plain (OpenSpec.ofChange fnDefaultDescribeACLsRequestSpec)) fnDefaultDescribeACLsRequestCard

/-- THE TIED CARD OF 'laws.FnUnsafeOffsetCommitResponse'. -/
def fnUnsafeOffsetCommitResponseCard : Claim7 := { stood := { row := fnUnsafeOffsetCommitResponseRow, standIns := [], harness := (true, "164c6cec9deb22457d25bf97cc1f7ae3b02a9cc7573cd167667088192e13b4f3"), looks := false }, kinds := [], alts := [], laidByText := true, laidKinds := [.sentinel], laidTests := true, laidLooks := .later }
def FnUnsafeOffsetCommitResponseCardSaid : Prop := Claim7.holds Tryd.pinned (.plain (OpenSpec.ofChange fnUnsafeOffsetCommitResponseSpec)) fnUnsafeOffsetCommitResponseCard

/-- THE TIED CARD OF 'laws.FnUnsafeTxnOffsetCommitResponse'. -/
def fnUnsafeTxnOffsetCommitResponseCard : Claim7 := { stood := { row := fnUnsafeTxnOffsetCommitResponseRow, standIns := [], harness := (true, "164c6cec9deb22457d25bf97cc1f7ae3b02a9cc7573cd167667088192e13b4f3"), looks := false }, kinds := [], alts := [], laidByText := true, laidKinds := [.sentinel], laidTests := true, laidLooks := .later }
def FnUnsafeTxnOffsetCommitResponseCardSaid : Prop := Claim7.holds Tryd.pinned (.plain (OpenSpec.ofChange fnUnsafeTxnOffsetCommitResponseSpec)) fnUnsafeTxnOffsetCommitResponseCard

/-- THE TIED CARD OF 'laws.FnUnsafeInitializeShareGroupStateResponse'. -/
def fnUnsafeInitializeShareGroupStateResponseCard : Claim7 := { stood := { row := fnUnsafeInitializeShareGroupStateResponseRow, standIns := [], harness := (true, "164c6cec9deb22457d25bf97cc1f7ae3b02a9cc7573cd167667088192e13b4f3"), looks := false }, kinds := [], alts := [], laidByText := true, laidKinds := [.sentinel], laidTests := true, laidLooks := .later }
def FnUnsafeInitializeShareGroupStateResponseCardSaid : Prop := Claim7.holds Tryd.pinned (.plain (OpenSpec.ofChange fnUnsafeInitializeShareGroupStateResponseSpec)) fnUnsafeInitializeShareGroupStateResponseCard

/-- THE TIED CARD OF 'laws.FnUnsafeOffsetForLeaderEpochResponse'. -/
def fnUnsafeOffsetForLeaderEpochResponseCard : Claim7 := { stood := { row := fnUnsafeOffsetForLeaderEpochResponseRow, standIns := [], harness := (true, "164c6cec9deb22457d25bf97cc1f7ae3b02a9cc7573cd167667088192e13b4f3"), looks := false }, kinds := [], alts := [], laidByText := true, laidKinds := [.sentinel], laidTests := true, laidLooks := .later }
def FnUnsafeOffsetForLeaderEpochResponseCardSaid : Prop := Claim7.holds Tryd.pinned (.plain (OpenSpec.ofChange fnUnsafeOffsetForLeaderEpochResponseSpec)) fnUnsafeOffsetForLeaderEpochResponseCard

/-- THE TIED CARD OF 'laws.FnUnsafeDescribeConfigsRequest'. -/
def fnUnsafeDescribeConfigsRequestCard : Claim7 := { stood := { row := fnUnsafeDescribeConfigsRequestRow, standIns := [], harness := (true, "164c6cec9deb22457d25bf97cc1f7ae3b02a9cc7573cd167667088192e13b4f3"), looks := false }, kinds := [], alts := [], laidByText := true, laidKinds := [.sentinel], laidTests := true, laidLooks := .later }
def FnUnsafeDescribeConfigsRequestCardSaid : Prop := Claim7.holds Tryd.pinned (.plain (OpenSpec.ofChange fnUnsafeDescribeConfigsRequestSpec)) fnUnsafeDescribeConfigsRequestCard

/-- THE TIED CARD OF 'laws.FnUnsafeAlterUserSCRAMCredentialsRequest'. -/
def fnUnsafeAlterUserSCRAMCredentialsRequestCard : Claim7 := { stood := { row := fnUnsafeAlterUserSCRAMCredentialsRequestRow, standIns := [], harness := (true, "164c6cec9deb22457d25bf97cc1f7ae3b02a9cc7573cd167667088192e13b4f3"), looks := false }, kinds := [], alts := [], laidByText := true, laidKinds := [.sentinel], laidTests := true, laidLooks := .later }
def FnUnsafeAlterUserSCRAMCredentialsRequestCardSaid : Prop := Claim7.holds Tryd.pinned (.plain (OpenSpec.ofChange fnUnsafeAlterUserSCRAMCredentialsRequestSpec)) fnUnsafeAlterUserSCRAMCredentialsRequestCard

/-- THE TIED CARD OF 'laws.FnUnsafeWriteTxnMarkersRequest'. -/
def fnUnsafeWriteTxnMarkersRequestCard : Claim7 := { stood := { row := fnUnsafeWriteTxnMarkersRequestRow, standIns := [], harness := (true, "164c6cec9deb22457d25bf97cc1f7ae3b02a9cc7573cd167667088192e13b4f3"), looks := false }, kinds := [], alts := [], laidByText := true, laidKinds := [.sentinel], laidTests := true, laidLooks := .later }
def FnUnsafeWriteTxnMarkersRequestCardSaid : Prop := Claim7.holds Tryd.pinned (.plain (OpenSpec.ofChange fnUnsafeWriteTxnMarkersRequestSpec)) fnUnsafeWriteTxnMarkersRequestCard

/-- THE TIED CARD OF 'laws.FnUnsafeReadShareGroupStateResponse'. -/
def fnUnsafeReadShareGroupStateResponseCard : Claim7 := { stood := { row := fnUnsafeReadShareGroupStateResponseRow, standIns := [], harness := (true, "164c6cec9deb22457d25bf97cc1f7ae3b02a9cc7573cd167667088192e13b4f3"), looks := false }, kinds := [], alts := [], laidByText := true, laidKinds := [.sentinel], laidTests := true, laidLooks := .later }
def FnUnsafeReadShareGroupStateResponseCardSaid : Prop := Claim7.holds Tryd.pinned (.plain (OpenSpec.ofChange fnUnsafeReadShareGroupStateResponseSpec)) fnUnsafeReadShareGroupStateResponseCard

/-- THE TIED CARD OF 'laws.FnUnsafeAlterPartitionRequest'. -/
def fnUnsafeAlterPartitionRequestCard : Claim7 := { stood := { row := fnUnsafeAlterPartitionRequestRow, standIns := [], harness := (true, "164c6cec9deb22457d25bf97cc1f7ae3b02a9cc7573cd167667088192e13b4f3"), looks := false }, kinds := [], alts := [], laidByText := true, laidKinds := [.sentinel], laidTests := true, laidLooks := .later }
def FnUnsafeAlterPartitionRequestCardSaid : Prop := Claim7.holds Tryd.pinned (.plain (OpenSpec.ofChange fnUnsafeAlterPartitionRequestSpec)) fnUnsafeAlterPartitionRequestCard

/-- THE TIED CARD OF 'laws.FnUnsafeDescribeDelegationTokenResponse'. -/
def fnUnsafeDescribeDelegationTokenResponseCard : Claim7 := { stood := { row := fnUnsafeDescribeDelegationTokenResponseRow, standIns := [], harness := (true, "164c6cec9deb22457d25bf97cc1f7ae3b02a9cc7573cd167667088192e13b4f3"), looks := false }, kinds := [], alts := [], laidByText := true, laidKinds := [.sentinel], laidTests := true, laidLooks := .later }
def FnUnsafeDescribeDelegationTokenResponseCardSaid : Prop := Claim7.holds Tryd.pinned (.plain (OpenSpec.ofChange fnUnsafeDescribeDelegationTokenResponseSpec)) fnUnsafeDescribeDelegationTokenResponseCard

/-- THE SECOND FORM's CARD OF 'laws.FnUnsafePushTelemetryRequest'. -/
def fnUnsafePushTelemetryRequestUptoCard : Claim7 := { stood := { row := fnUnsafePushTelemetryRequestUptoRow, standIns := [], harness := (true, "164c6cec9deb22457d25bf97cc1f7ae3b02a9cc7573cd167667088192e13b4f3"), looks := false }, kinds := [], alts := [], laidByText := true, laidKinds := [.sentinel], laidTests := true, laidLooks := .later }
def FnUnsafePushTelemetryRequestUptoCardSaid : Prop := Claim7.holds Tryd.pinned (.plain (OpenSpec.upto fnUnsafePushTelemetryRequestSpec)) fnUnsafePushTelemetryRequestUptoCard

/-- THE SECOND FORM's CARD OF 'laws.FnDefaultInitProducerIDRequest'. -/
def fnDefaultInitProducerIDRequestUptoCard : Claim7 := { stood := { row := fnDefaultInitProducerIDRequestUptoRow, standIns := [], harness := (true, "164c6cec9deb22457d25bf97cc1f7ae3b02a9cc7573cd167667088192e13b4f3"), looks := false }, kinds := [], alts := [], laidByText := true, laidKinds := [.sentinel], laidTests := true, laidLooks := .later }
def FnDefaultInitProducerIDRequestUptoCardSaid : Prop := Claim7.holds Tryd.pinned (.plain (OpenSpec.upto fnDefaultInitProducerIDRequestSpec)) fnDefaultInitProducerIDRequestUptoCard

/-- THE SECOND FORM's CARD OF 'laws.FnDefaultDescribeACLsRequest'. -/
def fnDefaultDescribeACLsRequestUptoCard : Claim7 := { stood := { row := fnDefaultDescribeACLsRequestUptoRow, standIns := [], harness := (true, "164c6cec9deb22457d25bf97cc1f7ae3b02a9cc7573cd167667088192e13b4f3"), looks := false }, kinds := [], alts := [], laidByText := true, laidKinds := [.sentinel], laidTests := true, laidLooks := .later }
def FnDefaultDescribeACLsRequestUptoCardSaid : Prop := Claim7.holds Tryd.pinned (.plain (OpenSpec.upto fnDefaultDescribeACLsRequestSpec)) fnDefaultDescribeACLsRequestUptoCard

/-- THE SECOND FORM's CARD OF 'laws.FnUnsafeOffsetCommitResponse'. -/
def fnUnsafeOffsetCommitResponseUptoCard : Claim7 := { stood := { row := fnUnsafeOffsetCommitResponseUptoRow, standIns := [], harness := (true, "164c6cec9deb22457d25bf97cc1f7ae3b02a9cc7573cd167667088192e13b4f3"), looks := false }, kinds := [], alts := [], laidByText := true, laidKinds := [.sentinel], laidTests := true, laidLooks := .later }
def FnUnsafeOffsetCommitResponseUptoCardSaid : Prop := Claim7.holds Tryd.pinned (.plain (OpenSpec.upto fnUnsafeOffsetCommitResponseSpec)) fnUnsafeOffsetCommitResponseUptoCard

/-- THE SECOND FORM's CARD OF 'laws.FnUnsafeTxnOffsetCommitResponse'. -/
def fnUnsafeTxnOffsetCommitResponseUptoCard : Claim7 := { stood := { row := fnUnsafeTxnOffsetCommitResponseUptoRow, standIns := [], harness := (true, "164c6cec9deb22457d25bf97cc1f7ae3b02a9cc7573cd167667088192e13b4f3"), looks := false }, kinds := [], alts := [], laidByText := true, laidKinds := [.sentinel], laidTests := true, laidLooks := .later }
def FnUnsafeTxnOffsetCommitResponseUptoCardSaid : Prop := Claim7.holds Tryd.pinned (.plain (OpenSpec.upto fnUnsafeTxnOffsetCommitResponseSpec)) fnUnsafeTxnOffsetCommitResponseUptoCard

/-- THE SECOND FORM's CARD OF 'laws.FnUnsafeInitializeShareGroupStateResponse'. -/
def fnUnsafeInitializeShareGroupStateResponseUptoCard : Claim7 := { stood := { row := fnUnsafeInitializeShareGroupStateResponseUptoRow, standIns := [], harness := (true, "164c6cec9deb22457d25bf97cc1f7ae3b02a9cc7573cd167667088192e13b4f3"), looks := false }, kinds := [], alts := [], laidByText := true, laidKinds := [.sentinel], laidTests := true, laidLooks := .later }
def FnUnsafeInitializeShareGroupStateResponseUptoCardSaid : Prop := Claim7.holds Tryd.pinned (.plain (OpenSpec.upto fnUnsafeInitializeShareGroupStateResponseSpec)) fnUnsafeInitializeShareGroupStateResponseUptoCard

/-- THE SECOND FORM's CARD OF 'laws.FnUnsafeOffsetForLeaderEpochResponse'. -/
def fnUnsafeOffsetForLeaderEpochResponseUptoCard : Claim7 := { stood := { row := fnUnsafeOffsetForLeaderEpochResponseUptoRow, standIns := [], harness := (true, "164c6cec9deb22457d25bf97cc1f7ae3b02a9cc7573cd167667088192e13b4f3"), looks := false }, kinds := [], alts := [], laidByText := true, laidKinds := [.sentinel], laidTests := true, laidLooks := .later }
def FnUnsafeOffsetForLeaderEpochResponseUptoCardSaid : Prop := Claim7.holds Tryd.pinned (.plain (OpenSpec.upto fnUnsafeOffsetForLeaderEpochResponseSpec)) fnUnsafeOffsetForLeaderEpochResponseUptoCard

/-- THE SECOND FORM's CARD OF 'laws.FnUnsafeDescribeConfigsRequest'. -/
def fnUnsafeDescribeConfigsRequestUptoCard : Claim7 := { stood := { row := fnUnsafeDescribeConfigsRequestUptoRow, standIns := [], harness := (true, "164c6cec9deb22457d25bf97cc1f7ae3b02a9cc7573cd167667088192e13b4f3"), looks := false }, kinds := [], alts := [], laidByText := true, laidKinds := [.sentinel], laidTests := true, laidLooks := .later }
def FnUnsafeDescribeConfigsRequestUptoCardSaid : Prop := Claim7.holds Tryd.pinned (.plain (OpenSpec.upto fnUnsafeDescribeConfigsRequestSpec)) fnUnsafeDescribeConfigsRequestUptoCard

/-- THE SECOND FORM's CARD OF 'laws.FnUnsafeAlterUserSCRAMCredentialsRequest'. -/
def fnUnsafeAlterUserSCRAMCredentialsRequestUptoCard : Claim7 := { stood := { row := fnUnsafeAlterUserSCRAMCredentialsRequestUptoRow, standIns := [], harness := (true, "164c6cec9deb22457d25bf97cc1f7ae3b02a9cc7573cd167667088192e13b4f3"), looks := false }, kinds := [], alts := [], laidByText := true, laidKinds := [.sentinel], laidTests := true, laidLooks := .later }
def FnUnsafeAlterUserSCRAMCredentialsRequestUptoCardSaid : Prop := Claim7.holds Tryd.pinned (.plain (OpenSpec.upto fnUnsafeAlterUserSCRAMCredentialsRequestSpec)) fnUnsafeAlterUserSCRAMCredentialsRequestUptoCard

/-- THE SECOND FORM's CARD OF 'laws.FnUnsafeWriteTxnMarkersRequest'. -/
def fnUnsafeWriteTxnMarkersRequestUptoCard : Claim7 := { stood := { row := fnUnsafeWriteTxnMarkersRequestUptoRow, standIns := [], harness := (true, "164c6cec9deb22457d25bf97cc1f7ae3b02a9cc7573cd167667088192e13b4f3"), looks := false }, kinds := [], alts := [], laidByText := true, laidKinds := [.sentinel], laidTests := true, laidLooks := .later }
def FnUnsafeWriteTxnMarkersRequestUptoCardSaid : Prop := Claim7.holds Tryd.pinned (.plain (OpenSpec.upto fnUnsafeWriteTxnMarkersRequestSpec)) fnUnsafeWriteTxnMarkersRequestUptoCard

/-- THE SECOND FORM's CARD OF 'laws.FnUnsafeReadShareGroupStateResponse'. -/
def fnUnsafeReadShareGroupStateResponseUptoCard : Claim7 := { stood := { row := fnUnsafeReadShareGroupStateResponseUptoRow, standIns := [], harness := (true, "164c6cec9deb22457d25bf97cc1f7ae3b02a9cc7573cd167667088192e13b4f3"), looks := false }, kinds := [], alts := [], laidByText := true, laidKinds := [.sentinel], laidTests := true, laidLooks := .later }
def FnUnsafeReadShareGroupStateResponseUptoCardSaid : Prop := Claim7.holds Tryd.pinned (.plain (OpenSpec.upto fnUnsafeReadShareGroupStateResponseSpec)) fnUnsafeReadShareGroupStateResponseUptoCard

/-- THE SECOND FORM's CARD OF 'laws.FnUnsafeAlterPartitionRequest'. -/
def fnUnsafeAlterPartitionRequestUptoCard : Claim7 := { stood := { row := fnUnsafeAlterPartitionRequestUptoRow, standIns := [], harness := (true, "164c6cec9deb22457d25bf97cc1f7ae3b02a9cc7573cd167667088192e13b4f3"), looks := false }, kinds := [], alts := [], laidByText := true, laidKinds := [.sentinel], laidTests := true, laidLooks := .later }
def FnUnsafeAlterPartitionRequestUptoCardSaid : Prop := Claim7.holds Tryd.pinned (.plain (OpenSpec.upto fnUnsafeAlterPartitionRequestSpec)) fnUnsafeAlterPartitionRequestUptoCard

/-- THE SECOND FORM's CARD OF 'laws.FnUnsafeDescribeDelegationTokenResponse'. -/
def fnUnsafeDescribeDelegationTokenResponseUptoCard : Claim7 := { stood := { row := fnUnsafeDescribeDelegationTokenResponseUptoRow, standIns := [], harness := (true, "164c6cec9deb22457d25bf97cc1f7ae3b02a9cc7573cd167667088192e13b4f3"), looks := false }, kinds := [], alts := [], laidByText := true, laidKinds := [.sentinel], laidTests := true, laidLooks := .later }
def FnUnsafeDescribeDelegationTokenResponseUptoCardSaid : Prop := Claim7.holds Tryd.pinned (.plain (OpenSpec.upto fnUnsafeDescribeDelegationTokenResponseSpec)) fnUnsafeDescribeDelegationTokenResponseUptoCard
end Rows
end Go.Proofs.YtcicbihkpkbbnaaDoor
