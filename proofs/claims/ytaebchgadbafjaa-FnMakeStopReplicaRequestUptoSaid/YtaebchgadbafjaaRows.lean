/-
  NARROWER THAN 'FOR EVERY INPUT', by the rows' own cells (each row's printed sentence says how): FnMakeLeaveGroupResponse: loops · FnMakeListTransactionsRequest: loops · FnMakeDeleteRecordsRequest: loops · FnMakeCreateACLsRequest: loops · FnMakeCreateDelegationTokenResponse: loops · FnMakeDeleteTopicsRequest: loops · FnMakeListOffsetsResponse: loops · FnMakeStopReplicaRequest: loops · FnMakeBeginQuorumEpochRequest: loops · FnMakeCreateTopicsRequest: loops.
  DERIVED. THE GIVEN ROWS OF THIS SEAT. 10 by the template 'for every input the law returns true; each argument reads behind the call as it read before'; 0 by the template 'total and deterministic' (their statements: YtaebchgadbafjaaTotals.lean).
  GIVEN WITH THE SEED: the statements are not yours to turn. If you find one false, say at which input.
  Laid BY PROGRAM, IN A SANDBOX (cutbox-rows.mjs): the forced cells as the released guide's own fill.sh prints them over the translation bf0798b49919ef4f… (all of the seat's roots in one cut). By AI agents, Wed Nov 11 2026. No macro, syntax, notation, axiom, sorry.
-/
import Derived.Test.YtaebchgadbafjaaChecked
import GoSem.Claim
import GoSem.ClaimJoined
import GoSem.ClaimMapViews
import Derived.JoinedTies
import Derived.KernelRfl
namespace Go.Proofs.Ytaebchgadbafjaa
/- THE CELL 'sum', in the pinned program and in every row, IS THE sha256 OF THE DUMP (.gsa) THAT YtaebchgadbafjaaProg.lean LOADS. Nothing in Lean hashes anything: it is a label: what it is worth is what the hold of that sum in a sandbox is worth. -/
noncomputable def Try.pinned : Pinned := { name := "ytaebchgadbafjaa", sum := "bf0798b49919ef4f900ab71498449ccada81ce9f0acf332ae3aa085c97ad9c73", checked := Try.checked }
namespace Rows
def none {H : Type} : Left H := { results := [], args := [] }

/-- 'laws.FnMakeLeaveGroupResponse': WHATEVER THE INPUT: true; the input reads as it did. -/
def fnMakeLeaveGroupResponseSpec : ChangeSpec := { name := "fnMakeLeaveGroupResponse", fn := fun _ => fun
  | [d1, d2] => { results := [.lit (.bool true)], args := [d1, d2] }
  | _ => none }
def fnMakeLeaveGroupResponseRow : OpenClaim := { program := "ytaebchgadbafjaa", sum := "bf0798b49919ef4f900ab71498449ccada81ce9f0acf332ae3aa085c97ad9c73", func := "pub-mailsack/laws.FnMakeLeaveGroupResponse", spec := "fnMakeLeaveGroupResponse", inPlace := ["internal/reflectlite.ValueOf", "internal/reflectlite.Swapper", "(internal/reflectlite.Value).Len"], unfollowed := true, recurses := true, loops := true, apart := false }
def FnMakeLeaveGroupResponseSaid : Prop := fnMakeLeaveGroupResponseRow.holds Try.pinned (OpenSpec.ofChange fnMakeLeaveGroupResponseSpec)

/-- ITS FALSE NEIGHBOUR: 'it returns false'. Refute it at one input. -/
def fnMakeLeaveGroupResponseWrong : ChangeSpec := { name := "fnMakeLeaveGroupResponse", fn := fun _ => fun
  | [d1, d2] => { results := [.lit (.bool false)], args := [d1, d2] }
  | _ => none }
def FnMakeLeaveGroupResponseWrongFalsely : Prop := fnMakeLeaveGroupResponseRow.holds Try.pinned (OpenSpec.ofChange fnMakeLeaveGroupResponseWrong)

/-- 'laws.FnMakeListTransactionsRequest': WHATEVER THE INPUT: true; the input reads as it did. -/
def fnMakeListTransactionsRequestSpec : ChangeSpec := { name := "fnMakeListTransactionsRequest", fn := fun _ => fun
  | [d1, d2] => { results := [.lit (.bool true)], args := [d1, d2] }
  | _ => none }
def fnMakeListTransactionsRequestRow : OpenClaim := { program := "ytaebchgadbafjaa", sum := "bf0798b49919ef4f900ab71498449ccada81ce9f0acf332ae3aa085c97ad9c73", func := "pub-mailsack/laws.FnMakeListTransactionsRequest", spec := "fnMakeListTransactionsRequest", inPlace := ["internal/reflectlite.ValueOf", "internal/reflectlite.Swapper", "(internal/reflectlite.Value).Len"], unfollowed := true, recurses := true, loops := true, apart := false }
def FnMakeListTransactionsRequestSaid : Prop := fnMakeListTransactionsRequestRow.holds Try.pinned (OpenSpec.ofChange fnMakeListTransactionsRequestSpec)

/-- ITS FALSE NEIGHBOUR: 'it returns false'. Refute it at one input. -/
def fnMakeListTransactionsRequestWrong : ChangeSpec := { name := "fnMakeListTransactionsRequest", fn := fun _ => fun
  | [d1, d2] => { results := [.lit (.bool false)], args := [d1, d2] }
  | _ => none }
def FnMakeListTransactionsRequestWrongFalsely : Prop := fnMakeListTransactionsRequestRow.holds Try.pinned (OpenSpec.ofChange fnMakeListTransactionsRequestWrong)

/-- 'laws.FnMakeDeleteRecordsRequest': WHATEVER THE INPUT: true; the input reads as it did. -/
def fnMakeDeleteRecordsRequestSpec : ChangeSpec := { name := "fnMakeDeleteRecordsRequest", fn := fun _ => fun
  | [d1, d2] => { results := [.lit (.bool true)], args := [d1, d2] }
  | _ => none }
def fnMakeDeleteRecordsRequestRow : OpenClaim := { program := "ytaebchgadbafjaa", sum := "bf0798b49919ef4f900ab71498449ccada81ce9f0acf332ae3aa085c97ad9c73", func := "pub-mailsack/laws.FnMakeDeleteRecordsRequest", spec := "fnMakeDeleteRecordsRequest", inPlace := ["internal/reflectlite.ValueOf", "internal/reflectlite.Swapper", "(internal/reflectlite.Value).Len"], unfollowed := true, recurses := true, loops := true, apart := false }
def FnMakeDeleteRecordsRequestSaid : Prop := fnMakeDeleteRecordsRequestRow.holds Try.pinned (OpenSpec.ofChange fnMakeDeleteRecordsRequestSpec)

/-- ITS FALSE NEIGHBOUR: 'it returns false'. Refute it at one input. -/
def fnMakeDeleteRecordsRequestWrong : ChangeSpec := { name := "fnMakeDeleteRecordsRequest", fn := fun _ => fun
  | [d1, d2] => { results := [.lit (.bool false)], args := [d1, d2] }
  | _ => none }
def FnMakeDeleteRecordsRequestWrongFalsely : Prop := fnMakeDeleteRecordsRequestRow.holds Try.pinned (OpenSpec.ofChange fnMakeDeleteRecordsRequestWrong)

/-- 'laws.FnMakeCreateACLsRequest': WHATEVER THE INPUT: true; the input reads as it did. -/
def fnMakeCreateACLsRequestSpec : ChangeSpec := { name := "fnMakeCreateACLsRequest", fn := fun _ => fun
  | [d1, d2] => { results := [.lit (.bool true)], args := [d1, d2] }
  | _ => none }
def fnMakeCreateACLsRequestRow : OpenClaim := { program := "ytaebchgadbafjaa", sum := "bf0798b49919ef4f900ab71498449ccada81ce9f0acf332ae3aa085c97ad9c73", func := "pub-mailsack/laws.FnMakeCreateACLsRequest", spec := "fnMakeCreateACLsRequest", inPlace := ["internal/reflectlite.ValueOf", "internal/reflectlite.Swapper", "(internal/reflectlite.Value).Len"], unfollowed := true, recurses := true, loops := true, apart := false }
def FnMakeCreateACLsRequestSaid : Prop := fnMakeCreateACLsRequestRow.holds Try.pinned (OpenSpec.ofChange fnMakeCreateACLsRequestSpec)

/-- ITS FALSE NEIGHBOUR: 'it returns false'. Refute it at one input. -/
def fnMakeCreateACLsRequestWrong : ChangeSpec := { name := "fnMakeCreateACLsRequest", fn := fun _ => fun
  | [d1, d2] => { results := [.lit (.bool false)], args := [d1, d2] }
  | _ => none }
def FnMakeCreateACLsRequestWrongFalsely : Prop := fnMakeCreateACLsRequestRow.holds Try.pinned (OpenSpec.ofChange fnMakeCreateACLsRequestWrong)

/-- 'laws.FnMakeCreateDelegationTokenResponse': WHATEVER THE INPUT: true; the input reads as it did. -/
def fnMakeCreateDelegationTokenResponseSpec : ChangeSpec := { name := "fnMakeCreateDelegationTokenResponse", fn := fun _ => fun
  | [d1, d2] => { results := [.lit (.bool true)], args := [d1, d2] }
  | _ => none }
def fnMakeCreateDelegationTokenResponseRow : OpenClaim := { program := "ytaebchgadbafjaa", sum := "bf0798b49919ef4f900ab71498449ccada81ce9f0acf332ae3aa085c97ad9c73", func := "pub-mailsack/laws.FnMakeCreateDelegationTokenResponse", spec := "fnMakeCreateDelegationTokenResponse", inPlace := ["internal/reflectlite.ValueOf", "internal/reflectlite.Swapper", "(internal/reflectlite.Value).Len"], unfollowed := true, recurses := true, loops := true, apart := false }
def FnMakeCreateDelegationTokenResponseSaid : Prop := fnMakeCreateDelegationTokenResponseRow.holds Try.pinned (OpenSpec.ofChange fnMakeCreateDelegationTokenResponseSpec)

/-- ITS FALSE NEIGHBOUR: 'it returns false'. Refute it at one input. -/
def fnMakeCreateDelegationTokenResponseWrong : ChangeSpec := { name := "fnMakeCreateDelegationTokenResponse", fn := fun _ => fun
  | [d1, d2] => { results := [.lit (.bool false)], args := [d1, d2] }
  | _ => none }
def FnMakeCreateDelegationTokenResponseWrongFalsely : Prop := fnMakeCreateDelegationTokenResponseRow.holds Try.pinned (OpenSpec.ofChange fnMakeCreateDelegationTokenResponseWrong)

/-- 'laws.FnMakeDeleteTopicsRequest': WHATEVER THE INPUT: true; the input reads as it did. -/
def fnMakeDeleteTopicsRequestSpec : ChangeSpec := { name := "fnMakeDeleteTopicsRequest", fn := fun _ => fun
  | [d1, d2] => { results := [.lit (.bool true)], args := [d1, d2] }
  | _ => none }
def fnMakeDeleteTopicsRequestRow : OpenClaim := { program := "ytaebchgadbafjaa", sum := "bf0798b49919ef4f900ab71498449ccada81ce9f0acf332ae3aa085c97ad9c73", func := "pub-mailsack/laws.FnMakeDeleteTopicsRequest", spec := "fnMakeDeleteTopicsRequest", inPlace := ["internal/reflectlite.ValueOf", "internal/reflectlite.Swapper", "(internal/reflectlite.Value).Len"], unfollowed := true, recurses := true, loops := true, apart := false }
def FnMakeDeleteTopicsRequestSaid : Prop := fnMakeDeleteTopicsRequestRow.holds Try.pinned (OpenSpec.ofChange fnMakeDeleteTopicsRequestSpec)

/-- ITS FALSE NEIGHBOUR: 'it returns false'. Refute it at one input. -/
def fnMakeDeleteTopicsRequestWrong : ChangeSpec := { name := "fnMakeDeleteTopicsRequest", fn := fun _ => fun
  | [d1, d2] => { results := [.lit (.bool false)], args := [d1, d2] }
  | _ => none }
def FnMakeDeleteTopicsRequestWrongFalsely : Prop := fnMakeDeleteTopicsRequestRow.holds Try.pinned (OpenSpec.ofChange fnMakeDeleteTopicsRequestWrong)

/-- 'laws.FnMakeListOffsetsResponse': WHATEVER THE INPUT: true; the input reads as it did. -/
def fnMakeListOffsetsResponseSpec : ChangeSpec := { name := "fnMakeListOffsetsResponse", fn := fun _ => fun
  | [d1, d2] => { results := [.lit (.bool true)], args := [d1, d2] }
  | _ => none }
def fnMakeListOffsetsResponseRow : OpenClaim := { program := "ytaebchgadbafjaa", sum := "bf0798b49919ef4f900ab71498449ccada81ce9f0acf332ae3aa085c97ad9c73", func := "pub-mailsack/laws.FnMakeListOffsetsResponse", spec := "fnMakeListOffsetsResponse", inPlace := ["internal/reflectlite.ValueOf", "internal/reflectlite.Swapper", "(internal/reflectlite.Value).Len"], unfollowed := true, recurses := true, loops := true, apart := false }
def FnMakeListOffsetsResponseSaid : Prop := fnMakeListOffsetsResponseRow.holds Try.pinned (OpenSpec.ofChange fnMakeListOffsetsResponseSpec)

/-- ITS FALSE NEIGHBOUR: 'it returns false'. Refute it at one input. -/
def fnMakeListOffsetsResponseWrong : ChangeSpec := { name := "fnMakeListOffsetsResponse", fn := fun _ => fun
  | [d1, d2] => { results := [.lit (.bool false)], args := [d1, d2] }
  | _ => none }
def FnMakeListOffsetsResponseWrongFalsely : Prop := fnMakeListOffsetsResponseRow.holds Try.pinned (OpenSpec.ofChange fnMakeListOffsetsResponseWrong)

/-- 'laws.FnMakeStopReplicaRequest': WHATEVER THE INPUT: true; the input reads as it did. -/
def fnMakeStopReplicaRequestSpec : ChangeSpec := { name := "fnMakeStopReplicaRequest", fn := fun _ => fun
  | [d1, d2] => { results := [.lit (.bool true)], args := [d1, d2] }
  | _ => none }
def fnMakeStopReplicaRequestRow : OpenClaim := { program := "ytaebchgadbafjaa", sum := "bf0798b49919ef4f900ab71498449ccada81ce9f0acf332ae3aa085c97ad9c73", func := "pub-mailsack/laws.FnMakeStopReplicaRequest", spec := "fnMakeStopReplicaRequest", inPlace := ["internal/reflectlite.ValueOf", "internal/reflectlite.Swapper", "(internal/reflectlite.Value).Len"], unfollowed := true, recurses := true, loops := true, apart := false }
def FnMakeStopReplicaRequestSaid : Prop := fnMakeStopReplicaRequestRow.holds Try.pinned (OpenSpec.ofChange fnMakeStopReplicaRequestSpec)

/-- ITS FALSE NEIGHBOUR: 'it returns false'. Refute it at one input. -/
def fnMakeStopReplicaRequestWrong : ChangeSpec := { name := "fnMakeStopReplicaRequest", fn := fun _ => fun
  | [d1, d2] => { results := [.lit (.bool false)], args := [d1, d2] }
  | _ => none }
def FnMakeStopReplicaRequestWrongFalsely : Prop := fnMakeStopReplicaRequestRow.holds Try.pinned (OpenSpec.ofChange fnMakeStopReplicaRequestWrong)

/-- 'laws.FnMakeBeginQuorumEpochRequest': WHATEVER THE INPUT: true; the input reads as it did. -/
def fnMakeBeginQuorumEpochRequestSpec : ChangeSpec := { name := "fnMakeBeginQuorumEpochRequest", fn := fun _ => fun
  | [d1, d2] => { results := [.lit (.bool true)], args := [d1, d2] }
  | _ => none }
def fnMakeBeginQuorumEpochRequestRow : OpenClaim := { program := "ytaebchgadbafjaa", sum := "bf0798b49919ef4f900ab71498449ccada81ce9f0acf332ae3aa085c97ad9c73", func := "pub-mailsack/laws.FnMakeBeginQuorumEpochRequest", spec := "fnMakeBeginQuorumEpochRequest", inPlace := ["internal/reflectlite.ValueOf", "internal/reflectlite.Swapper", "(internal/reflectlite.Value).Len"], unfollowed := true, recurses := true, loops := true, apart := false }
def FnMakeBeginQuorumEpochRequestSaid : Prop := fnMakeBeginQuorumEpochRequestRow.holds Try.pinned (OpenSpec.ofChange fnMakeBeginQuorumEpochRequestSpec)

/-- ITS FALSE NEIGHBOUR: 'it returns false'. Refute it at one input. -/
def fnMakeBeginQuorumEpochRequestWrong : ChangeSpec := { name := "fnMakeBeginQuorumEpochRequest", fn := fun _ => fun
  | [d1, d2] => { results := [.lit (.bool false)], args := [d1, d2] }
  | _ => none }
def FnMakeBeginQuorumEpochRequestWrongFalsely : Prop := fnMakeBeginQuorumEpochRequestRow.holds Try.pinned (OpenSpec.ofChange fnMakeBeginQuorumEpochRequestWrong)

/-- 'laws.FnMakeCreateTopicsRequest': WHATEVER THE INPUT: true; the input reads as it did. -/
def fnMakeCreateTopicsRequestSpec : ChangeSpec := { name := "fnMakeCreateTopicsRequest", fn := fun _ => fun
  | [d1, d2] => { results := [.lit (.bool true)], args := [d1, d2] }
  | _ => none }
def fnMakeCreateTopicsRequestRow : OpenClaim := { program := "ytaebchgadbafjaa", sum := "bf0798b49919ef4f900ab71498449ccada81ce9f0acf332ae3aa085c97ad9c73", func := "pub-mailsack/laws.FnMakeCreateTopicsRequest", spec := "fnMakeCreateTopicsRequest", inPlace := ["internal/reflectlite.ValueOf", "internal/reflectlite.Swapper", "(internal/reflectlite.Value).Len"], unfollowed := true, recurses := true, loops := true, apart := false }
def FnMakeCreateTopicsRequestSaid : Prop := fnMakeCreateTopicsRequestRow.holds Try.pinned (OpenSpec.ofChange fnMakeCreateTopicsRequestSpec)

/-- ITS FALSE NEIGHBOUR: 'it returns false'. Refute it at one input. -/
def fnMakeCreateTopicsRequestWrong : ChangeSpec := { name := "fnMakeCreateTopicsRequest", fn := fun _ => fun
  | [d1, d2] => { results := [.lit (.bool false)], args := [d1, d2] }
  | _ => none }
def FnMakeCreateTopicsRequestWrongFalsely : Prop := fnMakeCreateTopicsRequestRow.holds Try.pinned (OpenSpec.ofChange fnMakeCreateTopicsRequestWrong)

/- THE SECOND FORM. 'bulk': how many values and letters a reading holds, each counted each time it is reached (what is shared counts as often as it is met; a slice's spare places count too). A statement '..UptoSaid' is the law's where the arguments, and the package variables that the reading takes, are together of bulk at most 1048576: NARROWER than '..Said'. Prove '..Said' where nothing that the law and all that it calls make is longer than what came in: it says more and counts as full. Else prove '..UptoSaid'. A law counts once. -/
mutual
def uptoBulk {H : Type} : DataW H → Nat
  | .lit (.string bytes) => bytes.length + 1
  | .lit _ => 1
  | .nil => 1
  | .ptr d => uptoBulk d + 1
  | .slice elems spare => uptoBulkAll elems + uptoBulkAll spare + 1
  | .agg parts => uptoBulkAll parts + 1
  | .iface _ d => uptoBulk d + 1
  | .map entries => uptoBulkEntries entries + 1
  | .held _ => 1
def uptoBulkAll {H : Type} : List (DataW H) → Nat
  | [] => 0
  | d :: r => uptoBulk d + uptoBulkAll r
def uptoBulkEntries {H : Type} : List (Lit × DataW H) → Nat
  | [] => 0
  | x :: r => uptoBulkEntry x + uptoBulkEntries r
def uptoBulkEntry {H : Type} : Lit × DataW H → Nat
  | (.string bytes, d) => bytes.length + uptoBulk d + 1
  | (_, d) => uptoBulk d + 1
 end
def uptoSmall : (H : Type) → List (DataW H) → Bool := fun _ ds => decide (uptoBulkAll ds ≤ 1048576)
def OpenSpec.upto (s : _root_.Go.ChangeSpec) : _root_.Go.OpenSpec := { _root_.Go.OpenSpec.ofChange s with cond := some uptoSmall }

/-- 'laws.FnMakeLeaveGroupResponse', WHERE WHAT IT READS IS OF BULK AT MOST 1048576: true; the input reads as it did. -/
def fnMakeLeaveGroupResponseUptoRow : OpenClaim := { program := "ytaebchgadbafjaa", sum := "bf0798b49919ef4f900ab71498449ccada81ce9f0acf332ae3aa085c97ad9c73", func := "pub-mailsack/laws.FnMakeLeaveGroupResponse", spec := "fnMakeLeaveGroupResponse", inPlace := ["internal/reflectlite.ValueOf", "internal/reflectlite.Swapper", "(internal/reflectlite.Value).Len"], unfollowed := true, recurses := true, loops := true, apart := false, narrowed := true }
def FnMakeLeaveGroupResponseUptoSaid : Prop := fnMakeLeaveGroupResponseUptoRow.holds Try.pinned (OpenSpec.upto fnMakeLeaveGroupResponseSpec)

/-- 'laws.FnMakeListTransactionsRequest', WHERE WHAT IT READS IS OF BULK AT MOST 1048576: true; the input reads as it did. -/
def fnMakeListTransactionsRequestUptoRow : OpenClaim := { program := "ytaebchgadbafjaa", sum := "bf0798b49919ef4f900ab71498449ccada81ce9f0acf332ae3aa085c97ad9c73", func := "pub-mailsack/laws.FnMakeListTransactionsRequest", spec := "fnMakeListTransactionsRequest", inPlace := ["internal/reflectlite.ValueOf", "internal/reflectlite.Swapper", "(internal/reflectlite.Value).Len"], unfollowed := true, recurses := true, loops := true, apart := false, narrowed := true }
def FnMakeListTransactionsRequestUptoSaid : Prop := fnMakeListTransactionsRequestUptoRow.holds Try.pinned (OpenSpec.upto fnMakeListTransactionsRequestSpec)

/-- 'laws.FnMakeDeleteRecordsRequest', WHERE WHAT IT READS IS OF BULK AT MOST 1048576: true; the input reads as it did. -/
def fnMakeDeleteRecordsRequestUptoRow : OpenClaim := { program := "ytaebchgadbafjaa", sum := "bf0798b49919ef4f900ab71498449ccada81ce9f0acf332ae3aa085c97ad9c73", func := "pub-mailsack/laws.FnMakeDeleteRecordsRequest", spec := "fnMakeDeleteRecordsRequest", inPlace := ["internal/reflectlite.ValueOf", "internal/reflectlite.Swapper", "(internal/reflectlite.Value).Len"], unfollowed := true, recurses := true, loops := true, apart := false, narrowed := true }
def FnMakeDeleteRecordsRequestUptoSaid : Prop := fnMakeDeleteRecordsRequestUptoRow.holds Try.pinned (OpenSpec.upto fnMakeDeleteRecordsRequestSpec)

/-- 'laws.FnMakeCreateACLsRequest', WHERE WHAT IT READS IS OF BULK AT MOST 1048576: true; the input reads as it did. -/
def fnMakeCreateACLsRequestUptoRow : OpenClaim := { program := "ytaebchgadbafjaa", sum := "bf0798b49919ef4f900ab71498449ccada81ce9f0acf332ae3aa085c97ad9c73", func := "pub-mailsack/laws.FnMakeCreateACLsRequest", spec := "fnMakeCreateACLsRequest", inPlace := ["internal/reflectlite.ValueOf", "internal/reflectlite.Swapper", "(internal/reflectlite.Value).Len"], unfollowed := true, recurses := true, loops := true, apart := false, narrowed := true }
def FnMakeCreateACLsRequestUptoSaid : Prop := fnMakeCreateACLsRequestUptoRow.holds Try.pinned (OpenSpec.upto fnMakeCreateACLsRequestSpec)

/-- 'laws.FnMakeCreateDelegationTokenResponse', WHERE WHAT IT READS IS OF BULK AT MOST 1048576: true; the input reads as it did. -/
def fnMakeCreateDelegationTokenResponseUptoRow : OpenClaim := { program := "ytaebchgadbafjaa", sum := "bf0798b49919ef4f900ab71498449ccada81ce9f0acf332ae3aa085c97ad9c73", func := "pub-mailsack/laws.FnMakeCreateDelegationTokenResponse", spec := "fnMakeCreateDelegationTokenResponse", inPlace := ["internal/reflectlite.ValueOf", "internal/reflectlite.Swapper", "(internal/reflectlite.Value).Len"], unfollowed := true, recurses := true, loops := true, apart := false, narrowed := true }
def FnMakeCreateDelegationTokenResponseUptoSaid : Prop := fnMakeCreateDelegationTokenResponseUptoRow.holds Try.pinned (OpenSpec.upto fnMakeCreateDelegationTokenResponseSpec)

/-- 'laws.FnMakeDeleteTopicsRequest', WHERE WHAT IT READS IS OF BULK AT MOST 1048576: true; the input reads as it did. -/
def fnMakeDeleteTopicsRequestUptoRow : OpenClaim := { program := "ytaebchgadbafjaa", sum := "bf0798b49919ef4f900ab71498449ccada81ce9f0acf332ae3aa085c97ad9c73", func := "pub-mailsack/laws.FnMakeDeleteTopicsRequest", spec := "fnMakeDeleteTopicsRequest", inPlace := ["internal/reflectlite.ValueOf", "internal/reflectlite.Swapper", "(internal/reflectlite.Value).Len"], unfollowed := true, recurses := true, loops := true, apart := false, narrowed := true }
def FnMakeDeleteTopicsRequestUptoSaid : Prop := fnMakeDeleteTopicsRequestUptoRow.holds Try.pinned (OpenSpec.upto fnMakeDeleteTopicsRequestSpec)

/-- 'laws.FnMakeListOffsetsResponse', WHERE WHAT IT READS IS OF BULK AT MOST 1048576: true; the input reads as it did. -/
def fnMakeListOffsetsResponseUptoRow : OpenClaim := { program := "ytaebchgadbafjaa", sum := "bf0798b49919ef4f900ab71498449ccada81ce9f0acf332ae3aa085c97ad9c73", func := "pub-mailsack/laws.FnMakeListOffsetsResponse", spec := "fnMakeListOffsetsResponse", inPlace := ["internal/reflectlite.ValueOf", "internal/reflectlite.Swapper", "(internal/reflectlite.Value).Len"], unfollowed := true, recurses := true, loops := true, apart := false, narrowed := true }
def FnMakeListOffsetsResponseUptoSaid : Prop := fnMakeListOffsetsResponseUptoRow.holds Try.pinned (OpenSpec.upto fnMakeListOffsetsResponseSpec)

/-- 'laws.FnMakeStopReplicaRequest', WHERE WHAT IT READS IS OF BULK AT MOST 1048576: true; the input reads as it did. -/
def fnMakeStopReplicaRequestUptoRow : OpenClaim := { program := "ytaebchgadbafjaa", sum := "bf0798b49919ef4f900ab71498449ccada81ce9f0acf332ae3aa085c97ad9c73", func := "pub-mailsack/laws.FnMakeStopReplicaRequest", spec := "fnMakeStopReplicaRequest", inPlace := ["internal/reflectlite.ValueOf", "internal/reflectlite.Swapper", "(internal/reflectlite.Value).Len"], unfollowed := true, recurses := true, loops := true, apart := false, narrowed := true }
def FnMakeStopReplicaRequestUptoSaid : Prop := fnMakeStopReplicaRequestUptoRow.holds Try.pinned (OpenSpec.upto fnMakeStopReplicaRequestSpec)

/-- 'laws.FnMakeBeginQuorumEpochRequest', WHERE WHAT IT READS IS OF BULK AT MOST 1048576: true; the input reads as it did. -/
def fnMakeBeginQuorumEpochRequestUptoRow : OpenClaim := { program := "ytaebchgadbafjaa", sum := "bf0798b49919ef4f900ab71498449ccada81ce9f0acf332ae3aa085c97ad9c73", func := "pub-mailsack/laws.FnMakeBeginQuorumEpochRequest", spec := "fnMakeBeginQuorumEpochRequest", inPlace := ["internal/reflectlite.ValueOf", "internal/reflectlite.Swapper", "(internal/reflectlite.Value).Len"], unfollowed := true, recurses := true, loops := true, apart := false, narrowed := true }
def FnMakeBeginQuorumEpochRequestUptoSaid : Prop := fnMakeBeginQuorumEpochRequestUptoRow.holds Try.pinned (OpenSpec.upto fnMakeBeginQuorumEpochRequestSpec)

/-- 'laws.FnMakeCreateTopicsRequest', WHERE WHAT IT READS IS OF BULK AT MOST 1048576: true; the input reads as it did. -/
def fnMakeCreateTopicsRequestUptoRow : OpenClaim := { program := "ytaebchgadbafjaa", sum := "bf0798b49919ef4f900ab71498449ccada81ce9f0acf332ae3aa085c97ad9c73", func := "pub-mailsack/laws.FnMakeCreateTopicsRequest", spec := "fnMakeCreateTopicsRequest", inPlace := ["internal/reflectlite.ValueOf", "internal/reflectlite.Swapper", "(internal/reflectlite.Value).Len"], unfollowed := true, recurses := true, loops := true, apart := false, narrowed := true }
def FnMakeCreateTopicsRequestUptoSaid : Prop := fnMakeCreateTopicsRequestUptoRow.holds Try.pinned (OpenSpec.upto fnMakeCreateTopicsRequestSpec)

end Rows
end Go.Proofs.Ytaebchgadbafjaa
