/-
  DERIVED. GIVEN WITH THE SEED: THE CARDS: each row of YtdpckciobjkobaaGreatDoorRows.lean that lists a variable, with what it lists TIED to the program's text (the seventh form; the later family's looks); each row that meets fmt, with fmt's text TOLD by the authors' own Lean function (tested against real Go, not proved from fmt's source: count such statements apart). THE CARD IS WHAT COUNTS. Prove the row's statement (the work); the ties are given (YtdpckciobjkobaaGreatDoorTie.lean); close each card by the builder's one call (the guide's Derived/Test/ToyasCard.lean, 'card_holds'). Laid BY PROGRAM, IN A SANDBOX (cutbox-door.mjs). By AI agents, Wed Nov 11 2026. No macro, syntax, notation, axiom, sorry.
-/
import Derived.Test.YtdpckciobjkobaaGreatDoorRows
import GoSem.ClaimSeven
namespace Go.Proofs.YtdpckciobjkobaaGreatDoor
namespace Rows

/-- THE TIED CARD OF 'laws.FnFrameDeleteACLsRequest'. -/
def fnFrameDeleteACLsRequestCard : Claim7 := { stood := { row := fnFrameDeleteACLsRequestRow, standIns := [], harness := (true, "9fbe0a984d1f263499ff538df33f50f34f76d8ebefaa543d70664f609ebc3d8a"), looks := false }, kinds := [], alts := [], laidByText := true, laidKinds := [.sentinel], laidTests := true, laidLooks := .later }
def FnFrameDeleteACLsRequestCardSaid : Prop := Claim7.holds Tryz.pinned (.plain (OpenSpec.ofChange fnFrameDeleteACLsRequestSpec)) fnFrameDeleteACLsRequestCard

/-- THE TIED CARD OF 'laws.FnFrameAddPartitionsToTxnRequest'. -/
def fnFrameAddPartitionsToTxnRequestCard : Claim7 := { stood := { row := fnFrameAddPartitionsToTxnRequestRow, standIns := [], harness := (true, "9fbe0a984d1f263499ff538df33f50f34f76d8ebefaa543d70664f609ebc3d8a"), looks := false }, kinds := [], alts := [], laidByText := true, laidKinds := [.sentinel], laidTests := true, laidLooks := .later }
def FnFrameAddPartitionsToTxnRequestCardSaid : Prop := Claim7.holds Tryz.pinned (.plain (OpenSpec.ofChange fnFrameAddPartitionsToTxnRequestSpec)) fnFrameAddPartitionsToTxnRequestCard

/-- THE TIED CARD OF 'laws.FnFrameControlledShutdownRequest'. -/
def fnFrameControlledShutdownRequestCard : Claim7 := { stood := { row := fnFrameControlledShutdownRequestRow, standIns := [], harness := (true, "9fbe0a984d1f263499ff538df33f50f34f76d8ebefaa543d70664f609ebc3d8a"), looks := false }, kinds := [], alts := [], laidByText := true, laidKinds := [.sentinel], laidTests := true, laidLooks := .later }
def FnFrameControlledShutdownRequestCardSaid : Prop := Claim7.holds Tryz.pinned (.plain (OpenSpec.ofChange fnFrameControlledShutdownRequestSpec)) fnFrameControlledShutdownRequestCard

/-- THE TIED CARD OF 'laws.FnFrameEndTxnRequest'. -/
def fnFrameEndTxnRequestCard : Claim7 := { stood := { row := fnFrameEndTxnRequestRow, standIns := [], harness := (true, "9fbe0a984d1f263499ff538df33f50f34f76d8ebefaa543d70664f609ebc3d8a"), looks := false }, kinds := [], alts := [], laidByText := true, laidKinds := [.sentinel], laidTests := true, laidLooks := .later }
def FnFrameEndTxnRequestCardSaid : Prop := Claim7.holds Tryz.pinned (.plain (OpenSpec.ofChange fnFrameEndTxnRequestSpec)) fnFrameEndTxnRequestCard

/-- THE TIED CARD OF 'laws.FnFrameDescribeUserSCRAMCredentialsRequest'. -/
def fnFrameDescribeUserSCRAMCredentialsRequestCard : Claim7 := { stood := { row := fnFrameDescribeUserSCRAMCredentialsRequestRow, standIns := [], harness := (true, "9fbe0a984d1f263499ff538df33f50f34f76d8ebefaa543d70664f609ebc3d8a"), looks := false }, kinds := [], alts := [], laidByText := true, laidKinds := [.sentinel], laidTests := true, laidLooks := .later }
def FnFrameDescribeUserSCRAMCredentialsRequestCardSaid : Prop := Claim7.holds Tryz.pinned (.plain (OpenSpec.ofChange fnFrameDescribeUserSCRAMCredentialsRequestSpec)) fnFrameDescribeUserSCRAMCredentialsRequestCard

/-- THE TIED CARD OF 'laws.FnFrameShareGroupDescribeRequest'. -/
def fnFrameShareGroupDescribeRequestCard : Claim7 := { stood := { row := fnFrameShareGroupDescribeRequestRow, standIns := [], harness := (true, "9fbe0a984d1f263499ff538df33f50f34f76d8ebefaa543d70664f609ebc3d8a"), looks := false }, kinds := [], alts := [], laidByText := true, laidKinds := [.sentinel], laidTests := true, laidLooks := .later }
def FnFrameShareGroupDescribeRequestCardSaid : Prop := Claim7.holds Tryz.pinned (.plain (OpenSpec.ofChange fnFrameShareGroupDescribeRequestSpec)) fnFrameShareGroupDescribeRequestCard

/-- THE TIED CARD OF 'laws.FnFrameStreamsGroupDescribeRequest'. -/
def fnFrameStreamsGroupDescribeRequestCard : Claim7 := { stood := { row := fnFrameStreamsGroupDescribeRequestRow, standIns := [], harness := (true, "9fbe0a984d1f263499ff538df33f50f34f76d8ebefaa543d70664f609ebc3d8a"), looks := false }, kinds := [], alts := [], laidByText := true, laidKinds := [.sentinel], laidTests := true, laidLooks := .later }
def FnFrameStreamsGroupDescribeRequestCardSaid : Prop := Claim7.holds Tryz.pinned (.plain (OpenSpec.ofChange fnFrameStreamsGroupDescribeRequestSpec)) fnFrameStreamsGroupDescribeRequestCard

/-- THE TIED CARD OF 'laws.FnFrameDeleteShareGroupOffsetsRequest'. -/
def fnFrameDeleteShareGroupOffsetsRequestCard : Claim7 := { stood := { row := fnFrameDeleteShareGroupOffsetsRequestRow, standIns := [], harness := (true, "9fbe0a984d1f263499ff538df33f50f34f76d8ebefaa543d70664f609ebc3d8a"), looks := false }, kinds := [], alts := [], laidByText := true, laidKinds := [.sentinel], laidTests := true, laidLooks := .later }
def FnFrameDeleteShareGroupOffsetsRequestCardSaid : Prop := Claim7.holds Tryz.pinned (.plain (OpenSpec.ofChange fnFrameDeleteShareGroupOffsetsRequestSpec)) fnFrameDeleteShareGroupOffsetsRequestCard

/-- THE TIED CARD OF 'laws.FnFrameDescribeShareGroupOffsetsRequest'. -/
def fnFrameDescribeShareGroupOffsetsRequestCard : Claim7 := { stood := { row := fnFrameDescribeShareGroupOffsetsRequestRow, standIns := [], harness := (true, "9fbe0a984d1f263499ff538df33f50f34f76d8ebefaa543d70664f609ebc3d8a"), looks := false }, kinds := [], alts := [], laidByText := true, laidKinds := [.sentinel], laidTests := true, laidLooks := .later }
def FnFrameDescribeShareGroupOffsetsRequestCardSaid : Prop := Claim7.holds Tryz.pinned (.plain (OpenSpec.ofChange fnFrameDescribeShareGroupOffsetsRequestSpec)) fnFrameDescribeShareGroupOffsetsRequestCard

/-- THE SECOND FORM's CARD OF 'laws.FnFrameDeleteACLsRequest'. -/
def fnFrameDeleteACLsRequestUptoCard : Claim7 := { stood := { row := fnFrameDeleteACLsRequestUptoRow, standIns := [], harness := (true, "9fbe0a984d1f263499ff538df33f50f34f76d8ebefaa543d70664f609ebc3d8a"), looks := false }, kinds := [], alts := [], laidByText := true, laidKinds := [.sentinel], laidTests := true, laidLooks := .later }
def FnFrameDeleteACLsRequestUptoCardSaid : Prop := Claim7.holds Tryz.pinned (.plain (OpenSpec.upto fnFrameDeleteACLsRequestSpec)) fnFrameDeleteACLsRequestUptoCard

/-- THE SECOND FORM's CARD OF 'laws.FnFrameAddPartitionsToTxnRequest'. -/
def fnFrameAddPartitionsToTxnRequestUptoCard : Claim7 := { stood := { row := fnFrameAddPartitionsToTxnRequestUptoRow, standIns := [], harness := (true, "9fbe0a984d1f263499ff538df33f50f34f76d8ebefaa543d70664f609ebc3d8a"), looks := false }, kinds := [], alts := [], laidByText := true, laidKinds := [.sentinel], laidTests := true, laidLooks := .later }
def FnFrameAddPartitionsToTxnRequestUptoCardSaid : Prop := Claim7.holds Tryz.pinned (.plain (OpenSpec.upto fnFrameAddPartitionsToTxnRequestSpec)) fnFrameAddPartitionsToTxnRequestUptoCard

/-- THE SECOND FORM's CARD OF 'laws.FnFrameControlledShutdownRequest'. -/
def fnFrameControlledShutdownRequestUptoCard : Claim7 := { stood := { row := fnFrameControlledShutdownRequestUptoRow, standIns := [], harness := (true, "9fbe0a984d1f263499ff538df33f50f34f76d8ebefaa543d70664f609ebc3d8a"), looks := false }, kinds := [], alts := [], laidByText := true, laidKinds := [.sentinel], laidTests := true, laidLooks := .later }
def FnFrameControlledShutdownRequestUptoCardSaid : Prop := Claim7.holds Tryz.pinned (.plain (OpenSpec.upto fnFrameControlledShutdownRequestSpec)) fnFrameControlledShutdownRequestUptoCard

/-- THE SECOND FORM's CARD OF 'laws.FnFrameEndTxnRequest'. -/
def fnFrameEndTxnRequestUptoCard : Claim7 := { stood := { row := fnFrameEndTxnRequestUptoRow, standIns := [], harness := (true, "9fbe0a984d1f263499ff538df33f50f34f76d8ebefaa543d70664f609ebc3d8a"), looks := false }, kinds := [], alts := [], laidByText := true, laidKinds := [.sentinel], laidTests := true, laidLooks := .later }
def FnFrameEndTxnRequestUptoCardSaid : Prop := Claim7.holds Tryz.pinned (.plain (OpenSpec.upto fnFrameEndTxnRequestSpec)) fnFrameEndTxnRequestUptoCard

/-- THE SECOND FORM's CARD OF 'laws.FnFrameDescribeUserSCRAMCredentialsRequest'. -/
def fnFrameDescribeUserSCRAMCredentialsRequestUptoCard : Claim7 := { stood := { row := fnFrameDescribeUserSCRAMCredentialsRequestUptoRow, standIns := [], harness := (true, "9fbe0a984d1f263499ff538df33f50f34f76d8ebefaa543d70664f609ebc3d8a"), looks := false }, kinds := [], alts := [], laidByText := true, laidKinds := [.sentinel], laidTests := true, laidLooks := .later }
def FnFrameDescribeUserSCRAMCredentialsRequestUptoCardSaid : Prop := Claim7.holds Tryz.pinned (.plain (OpenSpec.upto fnFrameDescribeUserSCRAMCredentialsRequestSpec)) fnFrameDescribeUserSCRAMCredentialsRequestUptoCard

/-- THE SECOND FORM's CARD OF 'laws.FnFrameShareGroupDescribeRequest'. -/
def fnFrameShareGroupDescribeRequestUptoCard : Claim7 := { stood := { row := fnFrameShareGroupDescribeRequestUptoRow, standIns := [], harness := (true, "9fbe0a984d1f263499ff538df33f50f34f76d8ebefaa543d70664f609ebc3d8a"), looks := false }, kinds := [], alts := [], laidByText := true, laidKinds := [.sentinel], laidTests := true, laidLooks := .later }
def FnFrameShareGroupDescribeRequestUptoCardSaid : Prop := Claim7.holds Tryz.pinned (.plain (OpenSpec.upto fnFrameShareGroupDescribeRequestSpec)) fnFrameShareGroupDescribeRequestUptoCard

/-- THE SECOND FORM's CARD OF 'laws.FnFrameStreamsGroupDescribeRequest'. -/
def fnFrameStreamsGroupDescribeRequestUptoCard : Claim7 := { stood := { row := fnFrameStreamsGroupDescribeRequestUptoRow, standIns := [], harness := (true, "9fbe0a984d1f263499ff538df33f50f34f76d8ebefaa543d70664f609ebc3d8a"), looks := false }, kinds := [], alts := [], laidByText := true, laidKinds := [.sentinel], laidTests := true, laidLooks := .later }
def FnFrameStreamsGroupDescribeRequestUptoCardSaid : Prop := Claim7.holds Tryz.pinned (.plain (OpenSpec.upto fnFrameStreamsGroupDescribeRequestSpec)) fnFrameStreamsGroupDescribeRequestUptoCard

/-- THE SECOND FORM's CARD OF 'laws.FnFrameDeleteShareGroupOffsetsRequest'. -/
def fnFrameDeleteShareGroupOffsetsRequestUptoCard : Claim7 := { stood := { row := fnFrameDeleteShareGroupOffsetsRequestUptoRow, standIns := [], harness := (true, "9fbe0a984d1f263499ff538df33f50f34f76d8ebefaa543d70664f609ebc3d8a"), looks := false }, kinds := [], alts := [], laidByText := true, laidKinds := [.sentinel], laidTests := true, laidLooks := .later }
def FnFrameDeleteShareGroupOffsetsRequestUptoCardSaid : Prop := Claim7.holds Tryz.pinned (.plain (OpenSpec.upto fnFrameDeleteShareGroupOffsetsRequestSpec)) fnFrameDeleteShareGroupOffsetsRequestUptoCard

/-- THE SECOND FORM's CARD OF 'laws.FnFrameDescribeShareGroupOffsetsRequest'. -/
def fnFrameDescribeShareGroupOffsetsRequestUptoCard : Claim7 := { stood := { row := fnFrameDescribeShareGroupOffsetsRequestUptoRow, standIns := [], harness := (true, "9fbe0a984d1f263499ff538df33f50f34f76d8ebefaa543d70664f609ebc3d8a"), looks := false }, kinds := [], alts := [], laidByText := true, laidKinds := [.sentinel], laidTests := true, laidLooks := .later }
def FnFrameDescribeShareGroupOffsetsRequestUptoCardSaid : Prop := Claim7.holds Tryz.pinned (.plain (OpenSpec.upto fnFrameDescribeShareGroupOffsetsRequestSpec)) fnFrameDescribeShareGroupOffsetsRequestUptoCard
end Rows
end Go.Proofs.YtdpckciobjkobaaGreatDoor
