/-
  DERIVED. GIVEN WITH THE SEED: THE CARDS: each row of YtmlpaobpdmgcgaaGreatDoorRRows.lean that lists a variable, with what it lists TIED to the program's text (the seventh form; the later family's looks); each row that meets fmt, with fmt's text TOLD by the authors' own Lean function (tested against real Go, not proved from fmt's source: count such statements apart). THE CARD IS WHAT COUNTS. Prove the row's statement (the work); the ties are given (YtmlpaobpdmgcgaaGreatDoorRTie.lean); close each card by the builder's one call (the guide's Derived/Test/ToyasCard.lean, 'card_holds'). Laid BY PROGRAM, IN A SANDBOX (cutbox-door.mjs). By AI agents, Wed Nov 11 2026. No macro, syntax, notation, axiom, sorry.
-/
import Derived.Test.YtmlpaobpdmgcgaaGreatDoorRRows
import GoSem.ClaimSeven
namespace Go.Proofs.YtmlpaobpdmgcgaaGreatDoorR
namespace Rows

/-- THE TIED CARD OF 'laws.FnTellAlterReplicaLogDirsResponse'. -/
def fnTellAlterReplicaLogDirsResponseCard : Claim7 := { stood := { row := fnTellAlterReplicaLogDirsResponseRow, standIns := [], harness := (true, "1ef00011715fe9826d8d809dbfb68d33dd6dd01a5be32e9b9fca733c3f7f9176"), looks := false }, kinds := [], alts := [], laidByText := true, laidKinds := [.sentinel], laidTests := true, laidLooks := .later }
def FnTellAlterReplicaLogDirsResponseCardSaid : Prop := Claim7.holds Tryz.pinned (.plain (OpenSpec.ofChange fnTellAlterReplicaLogDirsResponseSpec)) fnTellAlterReplicaLogDirsResponseCard

/-- THE TIED CARD OF 'laws.FnTellConsumerGroupHeartbeatRequest'. -/
def fnTellConsumerGroupHeartbeatRequestCard : Claim7 := { stood := { row := fnTellConsumerGroupHeartbeatRequestRow, standIns := [], harness := (true, "1ef00011715fe9826d8d809dbfb68d33dd6dd01a5be32e9b9fca733c3f7f9176"), looks := false }, kinds := [], alts := [], laidByText := true, laidKinds := [.sentinel], laidTests := true, laidLooks := .later }
def FnTellConsumerGroupHeartbeatRequestCardSaid : Prop := Claim7.holds Tryz.pinned (.plain (OpenSpec.ofChange fnTellConsumerGroupHeartbeatRequestSpec)) fnTellConsumerGroupHeartbeatRequestCard

/-- THE SECOND FORM's CARD OF 'laws.FnTellAlterReplicaLogDirsResponse'. -/
def fnTellAlterReplicaLogDirsResponseUptoCard : Claim7 := { stood := { row := fnTellAlterReplicaLogDirsResponseUptoRow, standIns := [], harness := (true, "1ef00011715fe9826d8d809dbfb68d33dd6dd01a5be32e9b9fca733c3f7f9176"), looks := false }, kinds := [], alts := [], laidByText := true, laidKinds := [.sentinel], laidTests := true, laidLooks := .later }
def FnTellAlterReplicaLogDirsResponseUptoCardSaid : Prop := Claim7.holds Tryz.pinned (.plain (OpenSpec.upto fnTellAlterReplicaLogDirsResponseSpec)) fnTellAlterReplicaLogDirsResponseUptoCard

/-- THE SECOND FORM's CARD OF 'laws.FnTellConsumerGroupHeartbeatRequest'. -/
def fnTellConsumerGroupHeartbeatRequestUptoCard : Claim7 := { stood := { row := fnTellConsumerGroupHeartbeatRequestUptoRow, standIns := [], harness := (true, "1ef00011715fe9826d8d809dbfb68d33dd6dd01a5be32e9b9fca733c3f7f9176"), looks := false }, kinds := [], alts := [], laidByText := true, laidKinds := [.sentinel], laidTests := true, laidLooks := .later }
def FnTellConsumerGroupHeartbeatRequestUptoCardSaid : Prop := Claim7.holds Tryz.pinned (.plain (OpenSpec.upto fnTellConsumerGroupHeartbeatRequestSpec)) fnTellConsumerGroupHeartbeatRequestUptoCard
end Rows
end Go.Proofs.YtmlpaobpdmgcgaaGreatDoorR
