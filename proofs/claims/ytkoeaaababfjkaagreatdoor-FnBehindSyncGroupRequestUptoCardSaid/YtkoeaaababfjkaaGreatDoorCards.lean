/-
  DERIVED. GIVEN WITH THE SEED: THE CARDS: each row of YtkoeaaababfjkaaGreatDoorRows.lean that lists a variable, with what it lists TIED to the program's text (the seventh form; the later family's looks); each row that meets fmt, with fmt's text TOLD by the authors' own Lean function (tested against real Go, not proved from fmt's source: count such statements apart). THE CARD IS WHAT COUNTS. Prove the row's statement (the work); the ties are given (YtkoeaaababfjkaaGreatDoorTie.lean); close each card by the builder's one call (the guide's Derived/Test/ToyasCard.lean, 'card_holds'). Laid BY PROGRAM, IN A SANDBOX (cutbox-door.mjs). By AI agents, Wed Nov 11 2026. No macro, syntax, notation, axiom, sorry.
-/
import Derived.Test.YtkoeaaababfjkaaGreatDoorRows
import GoSem.ClaimSeven
namespace Go.Proofs.YtkoeaaababfjkaaGreatDoor
namespace Rows

/-- THE TIED CARD OF 'laws.FnBehindAddRaftVoterResponse'. -/
def fnBehindAddRaftVoterResponseCard : Claim7 := { stood := { row := fnBehindAddRaftVoterResponseRow, standIns := [], harness := (true, "f7a711d4da694b96d3af7ee8ecbf8364da39fa7991c1aa139d070a36c4d8358b"), looks := false }, kinds := [], alts := [], laidByText := true, laidKinds := [.sentinel], laidTests := true, laidLooks := .later }
def FnBehindAddRaftVoterResponseCardSaid : Prop := Claim7.holds Tryz.pinned (.plain (OpenSpec.ofChange fnBehindAddRaftVoterResponseSpec)) fnBehindAddRaftVoterResponseCard

/-- THE TIED CARD OF 'laws.FnBehindRemoveRaftVoterRequest'. -/
def fnBehindRemoveRaftVoterRequestCard : Claim7 := { stood := { row := fnBehindRemoveRaftVoterRequestRow, standIns := [], harness := (true, "f7a711d4da694b96d3af7ee8ecbf8364da39fa7991c1aa139d070a36c4d8358b"), looks := false }, kinds := [], alts := [], laidByText := true, laidKinds := [.sentinel], laidTests := true, laidLooks := .later }
def FnBehindRemoveRaftVoterRequestCardSaid : Prop := Claim7.holds Tryz.pinned (.plain (OpenSpec.ofChange fnBehindRemoveRaftVoterRequestSpec)) fnBehindRemoveRaftVoterRequestCard

/-- THE TIED CARD OF 'laws.FnBehindDescribeLogDirsRequest'. -/
def fnBehindDescribeLogDirsRequestCard : Claim7 := { stood := { row := fnBehindDescribeLogDirsRequestRow, standIns := [], harness := (true, "f7a711d4da694b96d3af7ee8ecbf8364da39fa7991c1aa139d070a36c4d8358b"), looks := false }, kinds := [], alts := [], laidByText := true, laidKinds := [.sentinel], laidTests := true, laidLooks := .later }
def FnBehindDescribeLogDirsRequestCardSaid : Prop := Claim7.holds Tryz.pinned (.plain (OpenSpec.ofChange fnBehindDescribeLogDirsRequestSpec)) fnBehindDescribeLogDirsRequestCard

/-- THE TIED CARD OF 'laws.FnBehindAlterConfigsResponse'. -/
def fnBehindAlterConfigsResponseCard : Claim7 := { stood := { row := fnBehindAlterConfigsResponseRow, standIns := [], harness := (true, "f7a711d4da694b96d3af7ee8ecbf8364da39fa7991c1aa139d070a36c4d8358b"), looks := false }, kinds := [], alts := [], laidByText := true, laidKinds := [.sentinel], laidTests := true, laidLooks := .later }
def FnBehindAlterConfigsResponseCardSaid : Prop := Claim7.holds Tryz.pinned (.plain (OpenSpec.ofChange fnBehindAlterConfigsResponseSpec)) fnBehindAlterConfigsResponseCard

/-- THE TIED CARD OF 'laws.FnBehindElectLeadersResponse'. -/
def fnBehindElectLeadersResponseCard : Claim7 := { stood := { row := fnBehindElectLeadersResponseRow, standIns := [], harness := (true, "f7a711d4da694b96d3af7ee8ecbf8364da39fa7991c1aa139d070a36c4d8358b"), looks := false }, kinds := [], alts := [], laidByText := true, laidKinds := [.sentinel], laidTests := true, laidLooks := .later }
def FnBehindElectLeadersResponseCardSaid : Prop := Claim7.holds Tryz.pinned (.plain (OpenSpec.ofChange fnBehindElectLeadersResponseSpec)) fnBehindElectLeadersResponseCard

/-- THE TIED CARD OF 'laws.FnBehindSyncGroupRequest'. -/
def fnBehindSyncGroupRequestCard : Claim7 := { stood := { row := fnBehindSyncGroupRequestRow, standIns := [], harness := (true, "f7a711d4da694b96d3af7ee8ecbf8364da39fa7991c1aa139d070a36c4d8358b"), looks := false }, kinds := [], alts := [], laidByText := true, laidKinds := [.sentinel], laidTests := true, laidLooks := .later }
def FnBehindSyncGroupRequestCardSaid : Prop := Claim7.holds Tryz.pinned (.plain (OpenSpec.ofChange fnBehindSyncGroupRequestSpec)) fnBehindSyncGroupRequestCard

/-- THE TIED CARD OF 'laws.FnBehindAlterClientQuotasRequest'. -/
def fnBehindAlterClientQuotasRequestCard : Claim7 := { stood := { row := fnBehindAlterClientQuotasRequestRow, standIns := [], harness := (true, "f7a711d4da694b96d3af7ee8ecbf8364da39fa7991c1aa139d070a36c4d8358b"), looks := false }, kinds := [], alts := [], laidByText := true, laidKinds := [.sentinel], laidTests := true, laidLooks := .later }
def FnBehindAlterClientQuotasRequestCardSaid : Prop := Claim7.holds Tryz.pinned (.plain (OpenSpec.ofChange fnBehindAlterClientQuotasRequestSpec)) fnBehindAlterClientQuotasRequestCard

/-- THE SECOND FORM's CARD OF 'laws.FnBehindAddRaftVoterResponse'. -/
def fnBehindAddRaftVoterResponseUptoCard : Claim7 := { stood := { row := fnBehindAddRaftVoterResponseUptoRow, standIns := [], harness := (true, "f7a711d4da694b96d3af7ee8ecbf8364da39fa7991c1aa139d070a36c4d8358b"), looks := false }, kinds := [], alts := [], laidByText := true, laidKinds := [.sentinel], laidTests := true, laidLooks := .later }
def FnBehindAddRaftVoterResponseUptoCardSaid : Prop := Claim7.holds Tryz.pinned (.plain (OpenSpec.upto fnBehindAddRaftVoterResponseSpec)) fnBehindAddRaftVoterResponseUptoCard

/-- THE SECOND FORM's CARD OF 'laws.FnBehindRemoveRaftVoterRequest'. -/
def fnBehindRemoveRaftVoterRequestUptoCard : Claim7 := { stood := { row := fnBehindRemoveRaftVoterRequestUptoRow, standIns := [], harness := (true, "f7a711d4da694b96d3af7ee8ecbf8364da39fa7991c1aa139d070a36c4d8358b"), looks := false }, kinds := [], alts := [], laidByText := true, laidKinds := [.sentinel], laidTests := true, laidLooks := .later }
def FnBehindRemoveRaftVoterRequestUptoCardSaid : Prop := Claim7.holds Tryz.pinned (.plain (OpenSpec.upto fnBehindRemoveRaftVoterRequestSpec)) fnBehindRemoveRaftVoterRequestUptoCard

/-- THE SECOND FORM's CARD OF 'laws.FnBehindDescribeLogDirsRequest'. -/
def fnBehindDescribeLogDirsRequestUptoCard : Claim7 := { stood := { row := fnBehindDescribeLogDirsRequestUptoRow, standIns := [], harness := (true, "f7a711d4da694b96d3af7ee8ecbf8364da39fa7991c1aa139d070a36c4d8358b"), looks := false }, kinds := [], alts := [], laidByText := true, laidKinds := [.sentinel], laidTests := true, laidLooks := .later }
def FnBehindDescribeLogDirsRequestUptoCardSaid : Prop := Claim7.holds Tryz.pinned (.plain (OpenSpec.upto fnBehindDescribeLogDirsRequestSpec)) fnBehindDescribeLogDirsRequestUptoCard

/-- THE SECOND FORM's CARD OF 'laws.FnBehindAlterConfigsResponse'. -/
def fnBehindAlterConfigsResponseUptoCard : Claim7 := { stood := { row := fnBehindAlterConfigsResponseUptoRow, standIns := [], harness := (true, "f7a711d4da694b96d3af7ee8ecbf8364da39fa7991c1aa139d070a36c4d8358b"), looks := false }, kinds := [], alts := [], laidByText := true, laidKinds := [.sentinel], laidTests := true, laidLooks := .later }
def FnBehindAlterConfigsResponseUptoCardSaid : Prop := Claim7.holds Tryz.pinned (.plain (OpenSpec.upto fnBehindAlterConfigsResponseSpec)) fnBehindAlterConfigsResponseUptoCard

/-- THE SECOND FORM's CARD OF 'laws.FnBehindElectLeadersResponse'. -/
def fnBehindElectLeadersResponseUptoCard : Claim7 := { stood := { row := fnBehindElectLeadersResponseUptoRow, standIns := [], harness := (true, "f7a711d4da694b96d3af7ee8ecbf8364da39fa7991c1aa139d070a36c4d8358b"), looks := false }, kinds := [], alts := [], laidByText := true, laidKinds := [.sentinel], laidTests := true, laidLooks := .later }
def FnBehindElectLeadersResponseUptoCardSaid : Prop := Claim7.holds Tryz.pinned (.plain (OpenSpec.upto fnBehindElectLeadersResponseSpec)) fnBehindElectLeadersResponseUptoCard

/-- THE SECOND FORM's CARD OF 'laws.FnBehindSyncGroupRequest'. -/
def fnBehindSyncGroupRequestUptoCard : Claim7 := { stood := { row := fnBehindSyncGroupRequestUptoRow, standIns := [], harness := (true, "f7a711d4da694b96d3af7ee8ecbf8364da39fa7991c1aa139d070a36c4d8358b"), looks := false }, kinds := [], alts := [], laidByText := true, laidKinds := [.sentinel], laidTests := true, laidLooks := .later }
def FnBehindSyncGroupRequestUptoCardSaid : Prop := Claim7.holds Tryz.pinned (.plain (OpenSpec.upto fnBehindSyncGroupRequestSpec)) fnBehindSyncGroupRequestUptoCard

/-- THE SECOND FORM's CARD OF 'laws.FnBehindAlterClientQuotasRequest'. -/
def fnBehindAlterClientQuotasRequestUptoCard : Claim7 := { stood := { row := fnBehindAlterClientQuotasRequestUptoRow, standIns := [], harness := (true, "f7a711d4da694b96d3af7ee8ecbf8364da39fa7991c1aa139d070a36c4d8358b"), looks := false }, kinds := [], alts := [], laidByText := true, laidKinds := [.sentinel], laidTests := true, laidLooks := .later }
def FnBehindAlterClientQuotasRequestUptoCardSaid : Prop := Claim7.holds Tryz.pinned (.plain (OpenSpec.upto fnBehindAlterClientQuotasRequestSpec)) fnBehindAlterClientQuotasRequestUptoCard
end Rows
end Go.Proofs.YtkoeaaababfjkaaGreatDoor
