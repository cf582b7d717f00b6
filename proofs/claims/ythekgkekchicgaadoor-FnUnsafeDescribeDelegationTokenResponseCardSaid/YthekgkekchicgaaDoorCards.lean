/-
  DERIVED. GIVEN WITH THE SEED: THE CARDS: each row of YthekgkekchicgaaDoorRows.lean that lists a variable, with what it lists TIED to the program's text (the seventh form; the later family's looks); each row that meets fmt, with fmt's text TOLD by the authors' own Lean function (tested against real Go, not proved from fmt's source: count such statements apart). THE CARD IS WHAT COUNTS. Prove the row's statement (the work); the ties are given (YthekgkekchicgaaDoorTie.lean); close each card by the builder's one call (the guide's Derived/Test/ToyasCard.lean, 'card_holds'). Laid BY PROGRAM, IN A SANDBOX (cutbox-door.mjs). By AI agents, Wed Nov 11 2026. No macro, syntax, notation, axiom, sorry.
-/
import Derived.Test.YthekgkekchicgaaDoorRows
import GoSem.ClaimSeven
namespace Go.Proofs.YthekgkekchicgaaDoor
namespace Rows

/-- THE TIED CARD OF 'laws.FnUnsafeOffsetCommitValue'. -/
def fnUnsafeOffsetCommitValueCard : Claim7 := { stood := { row := fnUnsafeOffsetCommitValueRow, standIns := [], harness := (true, "a36850112425272c5019b470416cd22741b1092aaec0046ed8225968a45b5536"), looks := false }, kinds := [], alts := [], laidByText := true, laidKinds := [.sentinel], laidTests := true, laidLooks := .later }
def FnUnsafeOffsetCommitValueCardSaid : Prop := Claim7.holds Tryd.pinned (.plain (OpenSpec.ofChange fnUnsafeOffsetCommitValueSpec)) fnUnsafeOffsetCommitValueCard

/-- THE TIED CARD OF 'laws.FnUnsafeOffsetCommitResponse'. -/
def fnUnsafeOffsetCommitResponseCard : Claim7 := { stood := { row := fnUnsafeOffsetCommitResponseRow, standIns := [], harness := (true, "a36850112425272c5019b470416cd22741b1092aaec0046ed8225968a45b5536"), looks := false }, kinds := [], alts := [], laidByText := true, laidKinds := [.sentinel], laidTests := true, laidLooks := .later }
def FnUnsafeOffsetCommitResponseCardSaid : Prop := Claim7.holds Tryd.pinned (.plain (OpenSpec.ofChange fnUnsafeOffsetCommitResponseSpec)) fnUnsafeOffsetCommitResponseCard

/-- THE TIED CARD OF 'laws.FnUnsafeTxnOffsetCommitResponse'. -/
def fnUnsafeTxnOffsetCommitResponseCard : Claim7 := { stood := { row := fnUnsafeTxnOffsetCommitResponseRow, standIns := [], harness := (true, "a36850112425272c5019b470416cd22741b1092aaec0046ed8225968a45b5536"), looks := false }, kinds := [], alts := [], laidByText := true, laidKinds := [.sentinel], laidTests := true, laidLooks := .later }
def FnUnsafeTxnOffsetCommitResponseCardSaid : Prop := Claim7.holds Tryd.pinned (.plain (OpenSpec.ofChange fnUnsafeTxnOffsetCommitResponseSpec)) fnUnsafeTxnOffsetCommitResponseCard

/-- THE TIED CARD OF 'laws.FnUnsafeInitializeShareGroupStateResponse'. -/
def fnUnsafeInitializeShareGroupStateResponseCard : Claim7 := { stood := { row := fnUnsafeInitializeShareGroupStateResponseRow, standIns := [], harness := (true, "a36850112425272c5019b470416cd22741b1092aaec0046ed8225968a45b5536"), looks := false }, kinds := [], alts := [], laidByText := true, laidKinds := [.sentinel], laidTests := true, laidLooks := .later }
def FnUnsafeInitializeShareGroupStateResponseCardSaid : Prop := Claim7.holds Tryd.pinned (.plain (OpenSpec.ofChange fnUnsafeInitializeShareGroupStateResponseSpec)) fnUnsafeInitializeShareGroupStateResponseCard

/-- THE TIED CARD OF 'laws.FnUnsafeOffsetForLeaderEpochResponse'. -/
def fnUnsafeOffsetForLeaderEpochResponseCard : Claim7 := { stood := { row := fnUnsafeOffsetForLeaderEpochResponseRow, standIns := [], harness := (true, "a36850112425272c5019b470416cd22741b1092aaec0046ed8225968a45b5536"), looks := false }, kinds := [], alts := [], laidByText := true, laidKinds := [.sentinel], laidTests := true, laidLooks := .later }
def FnUnsafeOffsetForLeaderEpochResponseCardSaid : Prop := Claim7.holds Tryd.pinned (.plain (OpenSpec.ofChange fnUnsafeOffsetForLeaderEpochResponseSpec)) fnUnsafeOffsetForLeaderEpochResponseCard

/-- THE TIED CARD OF 'laws.FnUnsafeDescribeConfigsRequest'. -/
def fnUnsafeDescribeConfigsRequestCard : Claim7 := { stood := { row := fnUnsafeDescribeConfigsRequestRow, standIns := [], harness := (true, "a36850112425272c5019b470416cd22741b1092aaec0046ed8225968a45b5536"), looks := false }, kinds := [], alts := [], laidByText := true, laidKinds := [.sentinel], laidTests := true, laidLooks := .later }
def FnUnsafeDescribeConfigsRequestCardSaid : Prop := Claim7.holds Tryd.pinned (.plain (OpenSpec.ofChange fnUnsafeDescribeConfigsRequestSpec)) fnUnsafeDescribeConfigsRequestCard

/-- THE TIED CARD OF 'laws.FnUnsafeAlterUserSCRAMCredentialsRequest'. -/
def fnUnsafeAlterUserSCRAMCredentialsRequestCard : Claim7 := { stood := { row := fnUnsafeAlterUserSCRAMCredentialsRequestRow, standIns := [], harness := (true, "a36850112425272c5019b470416cd22741b1092aaec0046ed8225968a45b5536"), looks := false }, kinds := [], alts := [], laidByText := true, laidKinds := [.sentinel], laidTests := true, laidLooks := .later }
def FnUnsafeAlterUserSCRAMCredentialsRequestCardSaid : Prop := Claim7.holds Tryd.pinned (.plain (OpenSpec.ofChange fnUnsafeAlterUserSCRAMCredentialsRequestSpec)) fnUnsafeAlterUserSCRAMCredentialsRequestCard

/-- THE TIED CARD OF 'laws.FnUnsafeWriteTxnMarkersRequest'. -/
def fnUnsafeWriteTxnMarkersRequestCard : Claim7 := { stood := { row := fnUnsafeWriteTxnMarkersRequestRow, standIns := [], harness := (true, "a36850112425272c5019b470416cd22741b1092aaec0046ed8225968a45b5536"), looks := false }, kinds := [], alts := [], laidByText := true, laidKinds := [.sentinel], laidTests := true, laidLooks := .later }
def FnUnsafeWriteTxnMarkersRequestCardSaid : Prop := Claim7.holds Tryd.pinned (.plain (OpenSpec.ofChange fnUnsafeWriteTxnMarkersRequestSpec)) fnUnsafeWriteTxnMarkersRequestCard

/-- THE TIED CARD OF 'laws.FnUnsafeUpdateRaftVoterRequest'. -/
def fnUnsafeUpdateRaftVoterRequestCard : Claim7 := { stood := { row := fnUnsafeUpdateRaftVoterRequestRow, standIns := [], harness := (true, "a36850112425272c5019b470416cd22741b1092aaec0046ed8225968a45b5536"), looks := false }, kinds := [], alts := [], laidByText := true, laidKinds := [.sentinel], laidTests := true, laidLooks := .later }
def FnUnsafeUpdateRaftVoterRequestCardSaid : Prop := Claim7.holds Tryd.pinned (.plain (OpenSpec.ofChange fnUnsafeUpdateRaftVoterRequestSpec)) fnUnsafeUpdateRaftVoterRequestCard

/-- THE TIED CARD OF 'laws.FnUnsafeReadShareGroupStateResponse'. -/
def fnUnsafeReadShareGroupStateResponseCard : Claim7 := { stood := { row := fnUnsafeReadShareGroupStateResponseRow, standIns := [], harness := (true, "a36850112425272c5019b470416cd22741b1092aaec0046ed8225968a45b5536"), looks := false }, kinds := [], alts := [], laidByText := true, laidKinds := [.sentinel], laidTests := true, laidLooks := .later }
def FnUnsafeReadShareGroupStateResponseCardSaid : Prop := Claim7.holds Tryd.pinned (.plain (OpenSpec.ofChange fnUnsafeReadShareGroupStateResponseSpec)) fnUnsafeReadShareGroupStateResponseCard

/-- THE TIED CARD OF 'laws.FnUnsafeAlterPartitionRequest'. -/
def fnUnsafeAlterPartitionRequestCard : Claim7 := { stood := { row := fnUnsafeAlterPartitionRequestRow, standIns := [], harness := (true, "a36850112425272c5019b470416cd22741b1092aaec0046ed8225968a45b5536"), looks := false }, kinds := [], alts := [], laidByText := true, laidKinds := [.sentinel], laidTests := true, laidLooks := .later }
def FnUnsafeAlterPartitionRequestCardSaid : Prop := Claim7.holds Tryd.pinned (.plain (OpenSpec.ofChange fnUnsafeAlterPartitionRequestSpec)) fnUnsafeAlterPartitionRequestCard

/-- THE TIED CARD OF 'laws.FnUnsafeDescribeDelegationTokenResponse'. -/
def fnUnsafeDescribeDelegationTokenResponseCard : Claim7 := { stood := { row := fnUnsafeDescribeDelegationTokenResponseRow, standIns := [], harness := (true, "a36850112425272c5019b470416cd22741b1092aaec0046ed8225968a45b5536"), looks := false }, kinds := [], alts := [], laidByText := true, laidKinds := [.sentinel], laidTests := true, laidLooks := .later }
def FnUnsafeDescribeDelegationTokenResponseCardSaid : Prop := Claim7.holds Tryd.pinned (.plain (OpenSpec.ofChange fnUnsafeDescribeDelegationTokenResponseSpec)) fnUnsafeDescribeDelegationTokenResponseCard

/-- THE TIED CARD OF 'laws.FnUnsafeFetchSnapshotResponse'. -/
def fnUnsafeFetchSnapshotResponseCard : Claim7 := { stood := { row := fnUnsafeFetchSnapshotResponseRow, standIns := [], harness := (true, "a36850112425272c5019b470416cd22741b1092aaec0046ed8225968a45b5536"), looks := false }, kinds := [], alts := [], laidByText := true, laidKinds := [.sentinel], laidTests := true, laidLooks := .later }
def FnUnsafeFetchSnapshotResponseCardSaid : Prop := Claim7.holds Tryd.pinned (.plain (OpenSpec.ofChange fnUnsafeFetchSnapshotResponseSpec)) fnUnsafeFetchSnapshotResponseCard

/-- THE SECOND FORM's CARD OF 'laws.FnUnsafeOffsetCommitValue'. -/
def fnUnsafeOffsetCommitValueUptoCard : Claim7 := { stood := { row := fnUnsafeOffsetCommitValueUptoRow, standIns := [], harness := (true, "a36850112425272c5019b470416cd22741b1092aaec0046ed8225968a45b5536"), looks := false }, kinds := [], alts := [], laidByText := true, laidKinds := [.sentinel], laidTests := true, laidLooks := .later }
def FnUnsafeOffsetCommitValueUptoCardSaid : Prop := Claim7.holds Tryd.pinned (.plain (OpenSpec.upto fnUnsafeOffsetCommitValueSpec)) fnUnsafeOffsetCommitValueUptoCard

/-- THE SECOND FORM's CARD OF 'laws.FnUnsafeOffsetCommitResponse'. -/
def fnUnsafeOffsetCommitResponseUptoCard : Claim7 := { stood := { row := fnUnsafeOffsetCommitResponseUptoRow, standIns := [], harness := (true, "a36850112425272c5019b470416cd22741b1092aaec0046ed8225968a45b5536"), looks := false }, kinds := [], alts := [], laidByText := true, laidKinds := [.sentinel], laidTests := true, laidLooks := .later }
def FnUnsafeOffsetCommitResponseUptoCardSaid : Prop := Claim7.holds Tryd.pinned (.plain (OpenSpec.upto fnUnsafeOffsetCommitResponseSpec)) fnUnsafeOffsetCommitResponseUptoCard

/-- THE SECOND FORM's CARD OF 'laws.FnUnsafeTxnOffsetCommitResponse'. -/
def fnUnsafeTxnOffsetCommitResponseUptoCard : Claim7 := { stood := { row := fnUnsafeTxnOffsetCommitResponseUptoRow, standIns := [], harness := (true, "a36850112425272c5019b470416cd22741b1092aaec0046ed8225968a45b5536"), looks := false }, kinds := [], alts := [], laidByText := true, laidKinds := [.sentinel], laidTests := true, laidLooks := .later }
def FnUnsafeTxnOffsetCommitResponseUptoCardSaid : Prop := Claim7.holds Tryd.pinned (.plain (OpenSpec.upto fnUnsafeTxnOffsetCommitResponseSpec)) fnUnsafeTxnOffsetCommitResponseUptoCard

/-- THE SECOND FORM's CARD OF 'laws.FnUnsafeInitializeShareGroupStateResponse'. -/
def fnUnsafeInitializeShareGroupStateResponseUptoCard : Claim7 := { stood := { row := fnUnsafeInitializeShareGroupStateResponseUptoRow, standIns := [], harness := (true, "a36850112425272c5019b470416cd22741b1092aaec0046ed8225968a45b5536"), looks := false }, kinds := [], alts := [], laidByText := true, laidKinds := [.sentinel], laidTests := true, laidLooks := .later }
def FnUnsafeInitializeShareGroupStateResponseUptoCardSaid : Prop := Claim7.holds Tryd.pinned (.plain (OpenSpec.upto fnUnsafeInitializeShareGroupStateResponseSpec)) fnUnsafeInitializeShareGroupStateResponseUptoCard

/-- THE SECOND FORM's CARD OF 'laws.FnUnsafeOffsetForLeaderEpochResponse'. -/
def fnUnsafeOffsetForLeaderEpochResponseUptoCard : Claim7 := { stood := { row := fnUnsafeOffsetForLeaderEpochResponseUptoRow, standIns := [], harness := (true, "a36850112425272c5019b470416cd22741b1092aaec0046ed8225968a45b5536"), looks := false }, kinds := [], alts := [], laidByText := true, laidKinds := [.sentinel], laidTests := true, laidLooks := .later }
def FnUnsafeOffsetForLeaderEpochResponseUptoCardSaid : Prop := Claim7.holds Tryd.pinned (.plain (OpenSpec.upto fnUnsafeOffsetForLeaderEpochResponseSpec)) fnUnsafeOffsetForLeaderEpochResponseUptoCard

/-- THE SECOND FORM's CARD OF 'laws.FnUnsafeDescribeConfigsRequest'. -/
def fnUnsafeDescribeConfigsRequestUptoCard : Claim7 := { stood := { row := fnUnsafeDescribeConfigsRequestUptoRow, standIns := [], harness := (true, "a36850112425272c5019b470416cd22741b1092aaec0046ed8225968a45b5536"), looks := false }, kinds := [], alts := [], laidByText := true, laidKinds := [.sentinel], laidTests := true, laidLooks := .later }
def FnUnsafeDescribeConfigsRequestUptoCardSaid : Prop := Claim7.holds Tryd.pinned (.plain (OpenSpec.upto fnUnsafeDescribeConfigsRequestSpec)) fnUnsafeDescribeConfigsRequestUptoCard

/-- THE SECOND FORM's CARD OF 'laws.FnUnsafeAlterUserSCRAMCredentialsRequest'. -/
def fnUnsafeAlterUserSCRAMCredentialsRequestUptoCard : Claim7 := { stood := { row := fnUnsafeAlterUserSCRAMCredentialsRequestUptoRow, standIns := [], harness := (true, "a36850112425272c5019b470416cd22741b1092aaec0046ed8225968a45b5536"), looks := false }, kinds := [], alts := [], laidByText := true, laidKinds := [.sentinel], laidTests := true, laidLooks := .later }
def FnUnsafeAlterUserSCRAMCredentialsRequestUptoCardSaid : Prop := Claim7.holds Tryd.pinned (.plain (OpenSpec.upto fnUnsafeAlterUserSCRAMCredentialsRequestSpec)) fnUnsafeAlterUserSCRAMCredentialsRequestUptoCard

/-- THE SECOND FORM's CARD OF 'laws.FnUnsafeWriteTxnMarkersRequest'. -/
def fnUnsafeWriteTxnMarkersRequestUptoCard : Claim7 := { stood := { row := fnUnsafeWriteTxnMarkersRequestUptoRow, standIns := [], harness := (true, "a36850112425272c5019b470416cd22741b1092aaec0046ed8225968a45b5536"), looks := false }, kinds := [], alts := [], laidByText := true, laidKinds := [.sentinel], laidTests := true, laidLooks := .later }
def FnUnsafeWriteTxnMarkersRequestUptoCardSaid : Prop := Claim7.holds Tryd.pinned (.plain (OpenSpec.upto fnUnsafeWriteTxnMarkersRequestSpec)) fnUnsafeWriteTxnMarkersRequestUptoCard

/-- THE SECOND FORM's CARD OF 'laws.FnUnsafeUpdateRaftVoterRequest'. -/
def fnUnsafeUpdateRaftVoterRequestUptoCard : Claim7 := { stood := { row := fnUnsafeUpdateRaftVoterRequestUptoRow, standIns := [], harness := (true, "a36850112425272c5019b470416cd22741b1092aaec0046ed8225968a45b5536"), looks := false }, kinds := [], alts := [], laidByText := true, laidKinds := [.sentinel], laidTests := true, laidLooks := .later }
def FnUnsafeUpdateRaftVoterRequestUptoCardSaid : Prop := Claim7.holds Tryd.pinned (.plain (OpenSpec.upto fnUnsafeUpdateRaftVoterRequestSpec)) fnUnsafeUpdateRaftVoterRequestUptoCard

/-- THE SECOND FORM's CARD OF 'laws.FnUnsafeReadShareGroupStateResponse'. -/
def fnUnsafeReadShareGroupStateResponseUptoCard : Claim7 := { stood := { row := fnUnsafeReadShareGroupStateResponseUptoRow, standIns := [], harness := (true, "a36850112425272c5019b470416cd22741b1092aaec0046ed8225968a45b5536"), looks := false }, kinds := [], alts := [], laidByText := true, laidKinds := [.sentinel], laidTests := true, laidLooks := .later }
def FnUnsafeReadShareGroupStateResponseUptoCardSaid : Prop := Claim7.holds Tryd.pinned (.plain (OpenSpec.upto fnUnsafeReadShareGroupStateResponseSpec)) fnUnsafeReadShareGroupStateResponseUptoCard

/-- THE SECOND FORM's CARD OF 'laws.FnUnsafeAlterPartitionRequest'. -/
def fnUnsafeAlterPartitionRequestUptoCard : Claim7 := { stood := { row := fnUnsafeAlterPartitionRequestUptoRow, standIns := [], harness := (true, "a36850112425272c5019b470416cd22741b1092aaec0046ed8225968a45b5536"), looks := false }, kinds := [], alts := [], laidByText := true, laidKinds := [.sentinel], laidTests := true, laidLooks := .later }
def FnUnsafeAlterPartitionRequestUptoCardSaid : Prop := Claim7.holds Tryd.pinned (.plain (OpenSpec.upto fnUnsafeAlterPartitionRequestSpec)) fnUnsafeAlterPartitionRequestUptoCard

/-- THE SECOND FORM's CARD OF 'laws.FnUnsafeDescribeDelegationTokenResponse'. -/
def fnUnsafeDescribeDelegationTokenResponseUptoCard : Claim7 := { stood := { row := fnUnsafeDescribeDelegationTokenResponseUptoRow, standIns := [], harness := (true, "a36850112425272c5019b470416cd22741b1092aaec0046ed8225968a45b5536"), looks := false }, kinds := [], alts := [], laidByText := true, laidKinds := [.sentinel], laidTests := true, laidLooks := .later }
def FnUnsafeDescribeDelegationTokenResponseUptoCardSaid : Prop := Claim7.holds Tryd.pinned (.plain (OpenSpec.upto fnUnsafeDescribeDelegationTokenResponseSpec)) fnUnsafeDescribeDelegationTokenResponseUptoCard

/-- THE SECOND FORM's CARD OF 'laws.FnUnsafeFetchSnapshotResponse'. -/
def fnUnsafeFetchSnapshotResponseUptoCard : Claim7 := { stood := { row := fnUnsafeFetchSnapshotResponseUptoRow, standIns := [], harness := (true, "a36850112425272c5019b470416cd22741b1092aaec0046ed8225968a45b5536"), looks := false }, kinds := [], alts := [], laidByText := true, laidKinds := [.sentinel], laidTests := true, laidLooks := .later }
def FnUnsafeFetchSnapshotResponseUptoCardSaid : Prop := Claim7.holds Tryd.pinned (.plain (OpenSpec.upto fnUnsafeFetchSnapshotResponseSpec)) fnUnsafeFetchSnapshotResponseUptoCard
end Rows
end Go.Proofs.YthekgkekchicgaaDoor
