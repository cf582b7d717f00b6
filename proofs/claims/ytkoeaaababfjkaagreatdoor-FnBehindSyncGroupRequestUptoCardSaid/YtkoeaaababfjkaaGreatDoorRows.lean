/-
  NARROWER THAN 'FOR EVERY INPUT', by the rows' own cells (each row's printed sentence says how): FnBehindAddRaftVoterResponse: loops, laid · FnBehindRemoveRaftVoterRequest: loops, laid · FnBehindDescribeLogDirsRequest: loops, laid · FnBehindAlterConfigsResponse: loops, laid · FnBehindElectLeadersResponse: loops, laid · FnBehindSyncGroupRequest: loops, laid · FnBehindAlterClientQuotasRequest: loops, laid.
  DERIVED. THE GIVEN ROWS OF THIS SEAT. 7 by the template 'for every input the law returns true; each argument reads behind the call as it read before'; 0 by the template 'total and deterministic' (their statements: YtkoeaaababfjkaaGreatDoorTotals.lean).
  GIVEN WITH THE SEED: the statements are not yours to turn. If you find one false, say at which input.
  Laid BY PROGRAM, IN A SANDBOX (cutbox-rows.mjs): the forced cells as the released guide's own fill.sh prints them over the translation 50babbb988f51db2… (all of the seat's roots in one cut). By AI agents, Wed Nov 11 2026. No macro, syntax, notation, axiom, sorry.
-/
import Derived.Test.YtkoeaaababfjkaaGreatDoorChecked
import GoSem.Claim
import GoSem.ClaimJoined
import GoSem.ClaimMapViews
import Derived.JoinedTies
import Derived.KernelRfl
namespace Go.Proofs.YtkoeaaababfjkaaGreatDoor
/- THE CELL 'sum', in the pinned program and in every row, IS THE sha256 OF THE DUMP (.gsa) THAT YtkoeaaababfjkaaGreatDoorProg.lean LOADS. Nothing in Lean hashes anything: it is a label: what it is worth is what the hold of that sum in a sandbox is worth. -/
noncomputable def Tryz.pinned : Pinned := { name := "ytkoeaaababfjkaagreatdoor", sum := "50babbb988f51db29e1c561ecf6407d706c73441df5e2bc20bf9602c199580ef", checked := Tryz.checked }
namespace Rows
def none {H : Type} : Left H := { results := [], args := [] }

/- WHAT THE LISTED PACKAGE-LEVEL VARIABLES READ AS WHEN THE CALL BEGINS. Each datum BY PROGRAM (the guide's laid-datum.mjs) off the statement by which the dump's own 'gosem.cut.vars' lays the variable. In a bare row this is a premise. The card (YtkoeaaababfjkaaGreatDoorCards.lean) ties it to the program's text. -/
def laid_pub_mailsack_pub_kmsg_inner_kbin_ErrNotEnoughData {H : Type} : DataW H := .iface "*errors.errorString" (.ptr (.agg [.lit (.string [114, 101, 115, 112, 111, 110, 115, 101, 32, 100, 105, 100, 32, 110, 111, 116, 32, 99, 111, 110, 116, 97, 105, 110, 32, 101, 110, 111, 117, 103, 104, 32, 100, 97, 116, 97, 32, 116, 111, 32, 98, 101, 32, 118, 97, 108, 105, 100])]))

/-- 'laws.FnBehindAddRaftVoterResponse': WHATEVER THE INPUT: true; the input reads as it did. -/
def fnBehindAddRaftVoterResponseSpec : ChangeSpec := { name := "fnBehindAddRaftVoterResponse", fn := fun _ => fun
  | [d1, d2, d3] => { results := [.lit (.bool true)], args := [d1, d2, d3] }
  | _ => none }
def fnBehindAddRaftVoterResponseRow : OpenClaim := { program := "ytkoeaaababfjkaagreatdoor", sum := "50babbb988f51db29e1c561ecf6407d706c73441df5e2bc20bf9602c199580ef", func := "pub-mailsack/laws.FnBehindAddRaftVoterResponse", spec := "fnBehindAddRaftVoterResponse", inPlace := ["internal/reflectlite.ValueOf", "internal/reflectlite.Swapper", "(internal/reflectlite.Value).Len"], unfollowed := true, recurses := true, named := ["encoding/binary.BigEndian", "pub-mailsack/pub/kmsg/inner/kbin.ErrNotEnoughData"], loops := true, apart := false, laid := [("pub-mailsack/pub/kmsg/inner/kbin.ErrNotEnoughData", laid_pub_mailsack_pub_kmsg_inner_kbin_ErrNotEnoughData)] }
def FnBehindAddRaftVoterResponseSaid : Prop := fnBehindAddRaftVoterResponseRow.holds Tryz.pinned (OpenSpec.ofChange fnBehindAddRaftVoterResponseSpec)

/-- ITS FALSE NEIGHBOUR: 'it returns false'. Refute it at one input. -/
def fnBehindAddRaftVoterResponseWrong : ChangeSpec := { name := "fnBehindAddRaftVoterResponse", fn := fun _ => fun
  | [d1, d2, d3] => { results := [.lit (.bool false)], args := [d1, d2, d3] }
  | _ => none }
def FnBehindAddRaftVoterResponseWrongFalsely : Prop := fnBehindAddRaftVoterResponseRow.holds Tryz.pinned (OpenSpec.ofChange fnBehindAddRaftVoterResponseWrong)

/-- 'laws.FnBehindRemoveRaftVoterRequest': WHATEVER THE INPUT: true; the input reads as it did. -/
def fnBehindRemoveRaftVoterRequestSpec : ChangeSpec := { name := "fnBehindRemoveRaftVoterRequest", fn := fun _ => fun
  | [d1, d2, d3] => { results := [.lit (.bool true)], args := [d1, d2, d3] }
  | _ => none }
def fnBehindRemoveRaftVoterRequestRow : OpenClaim := { program := "ytkoeaaababfjkaagreatdoor", sum := "50babbb988f51db29e1c561ecf6407d706c73441df5e2bc20bf9602c199580ef", func := "pub-mailsack/laws.FnBehindRemoveRaftVoterRequest", spec := "fnBehindRemoveRaftVoterRequest", inPlace := ["internal/reflectlite.ValueOf", "internal/reflectlite.Swapper", "(internal/reflectlite.Value).Len"], unfollowed := true, recurses := true, named := ["encoding/binary.BigEndian", "pub-mailsack/pub/kmsg/inner/kbin.ErrNotEnoughData"], loops := true, apart := false, laid := [("pub-mailsack/pub/kmsg/inner/kbin.ErrNotEnoughData", laid_pub_mailsack_pub_kmsg_inner_kbin_ErrNotEnoughData)] }
def FnBehindRemoveRaftVoterRequestSaid : Prop := fnBehindRemoveRaftVoterRequestRow.holds Tryz.pinned (OpenSpec.ofChange fnBehindRemoveRaftVoterRequestSpec)

/-- ITS FALSE NEIGHBOUR: 'it returns false'. Refute it at one input. -/
def fnBehindRemoveRaftVoterRequestWrong : ChangeSpec := { name := "fnBehindRemoveRaftVoterRequest", fn := fun _ => fun
  | [d1, d2, d3] => { results := [.lit (.bool false)], args := [d1, d2, d3] }
  | _ => none }
def FnBehindRemoveRaftVoterRequestWrongFalsely : Prop := fnBehindRemoveRaftVoterRequestRow.holds Tryz.pinned (OpenSpec.ofChange fnBehindRemoveRaftVoterRequestWrong)

/-- 'laws.FnBehindDescribeLogDirsRequest': WHATEVER THE INPUT: true; the input reads as it did. -/
def fnBehindDescribeLogDirsRequestSpec : ChangeSpec := { name := "fnBehindDescribeLogDirsRequest", fn := fun _ => fun
  | [d1, d2, d3] => { results := [.lit (.bool true)], args := [d1, d2, d3] }
  | _ => none }
def fnBehindDescribeLogDirsRequestRow : OpenClaim := { program := "ytkoeaaababfjkaagreatdoor", sum := "50babbb988f51db29e1c561ecf6407d706c73441df5e2bc20bf9602c199580ef", func := "pub-mailsack/laws.FnBehindDescribeLogDirsRequest", spec := "fnBehindDescribeLogDirsRequest", inPlace := ["internal/reflectlite.ValueOf", "internal/reflectlite.Swapper", "(internal/reflectlite.Value).Len"], unfollowed := true, recurses := true, named := ["encoding/binary.BigEndian", "pub-mailsack/pub/kmsg/inner/kbin.ErrNotEnoughData"], loops := true, apart := false, laid := [("pub-mailsack/pub/kmsg/inner/kbin.ErrNotEnoughData", laid_pub_mailsack_pub_kmsg_inner_kbin_ErrNotEnoughData)] }
def FnBehindDescribeLogDirsRequestSaid : Prop := fnBehindDescribeLogDirsRequestRow.holds Tryz.pinned (OpenSpec.ofChange fnBehindDescribeLogDirsRequestSpec)

/-- ITS FALSE NEIGHBOUR: 'it returns false'. Refute it at one input. -/
def fnBehindDescribeLogDirsRequestWrong : ChangeSpec := { name := "fnBehindDescribeLogDirsRequest", fn := fun _ => fun
  | [d1, d2, d3] => { results := [.lit (.bool false)], args := [d1, d2, d3] }
  | _ => none }
def FnBehindDescribeLogDirsRequestWrongFalsely : Prop := fnBehindDescribeLogDirsRequestRow.holds Tryz.pinned (OpenSpec.ofChange fnBehindDescribeLogDirsRequestWrong)

/-- 'laws.FnBehindAlterConfigsResponse': WHATEVER THE INPUT: true; the input reads as it did. -/
def fnBehindAlterConfigsResponseSpec : ChangeSpec := { name := "fnBehindAlterConfigsResponse", fn := fun _ => fun
  | [d1, d2, d3] => { results := [.lit (.bool true)], args := [d1, d2, d3] }
  | _ => none }
def fnBehindAlterConfigsResponseRow : OpenClaim := { program := "ytkoeaaababfjkaagreatdoor", sum := "50babbb988f51db29e1c561ecf6407d706c73441df5e2bc20bf9602c199580ef", func := "pub-mailsack/laws.FnBehindAlterConfigsResponse", spec := "fnBehindAlterConfigsResponse", inPlace := ["internal/reflectlite.ValueOf", "internal/reflectlite.Swapper", "(internal/reflectlite.Value).Len"], unfollowed := true, recurses := true, named := ["encoding/binary.BigEndian", "pub-mailsack/pub/kmsg/inner/kbin.ErrNotEnoughData"], loops := true, apart := false, laid := [("pub-mailsack/pub/kmsg/inner/kbin.ErrNotEnoughData", laid_pub_mailsack_pub_kmsg_inner_kbin_ErrNotEnoughData)] }
def FnBehindAlterConfigsResponseSaid : Prop := fnBehindAlterConfigsResponseRow.holds Tryz.pinned (OpenSpec.ofChange fnBehindAlterConfigsResponseSpec)

/-- ITS FALSE NEIGHBOUR: 'it returns false'. Refute it at one input. -/
def fnBehindAlterConfigsResponseWrong : ChangeSpec := { name := "fnBehindAlterConfigsResponse", fn := fun _ => fun
  | [d1, d2, d3] => { results := [.lit (.bool false)], args := [d1, d2, d3] }
  | _ => none }
def FnBehindAlterConfigsResponseWrongFalsely : Prop := fnBehindAlterConfigsResponseRow.holds Tryz.pinned (OpenSpec.ofChange fnBehindAlterConfigsResponseWrong)

/-- 'laws.FnBehindElectLeadersResponse': WHATEVER THE INPUT: true; the input reads as it did. -/
def fnBehindElectLeadersResponseSpec : ChangeSpec := { name := "fnBehindElectLeadersResponse", fn := fun _ => fun
  | [d1, d2, d3] => { results := [.lit (.bool true)], args := [d1, d2, d3] }
  | _ => none }
def fnBehindElectLeadersResponseRow : OpenClaim := { program := "ytkoeaaababfjkaagreatdoor", sum := "50babbb988f51db29e1c561ecf6407d706c73441df5e2bc20bf9602c199580ef", func := "pub-mailsack/laws.FnBehindElectLeadersResponse", spec := "fnBehindElectLeadersResponse", inPlace := ["internal/reflectlite.ValueOf", "internal/reflectlite.Swapper", "(internal/reflectlite.Value).Len"], unfollowed := true, recurses := true, named := ["encoding/binary.BigEndian", "pub-mailsack/pub/kmsg/inner/kbin.ErrNotEnoughData"], loops := true, apart := false, laid := [("pub-mailsack/pub/kmsg/inner/kbin.ErrNotEnoughData", laid_pub_mailsack_pub_kmsg_inner_kbin_ErrNotEnoughData)] }
def FnBehindElectLeadersResponseSaid : Prop := fnBehindElectLeadersResponseRow.holds Tryz.pinned (OpenSpec.ofChange fnBehindElectLeadersResponseSpec)

/-- ITS FALSE NEIGHBOUR: 'it returns false'. Refute it at one input. -/
def fnBehindElectLeadersResponseWrong : ChangeSpec := { name := "fnBehindElectLeadersResponse", fn := fun _ => fun
  | [d1, d2, d3] => { results := [.lit (.bool false)], args := [d1, d2, d3] }
  | _ => none }
def FnBehindElectLeadersResponseWrongFalsely : Prop := fnBehindElectLeadersResponseRow.holds Tryz.pinned (OpenSpec.ofChange fnBehindElectLeadersResponseWrong)

/-- 'laws.FnBehindSyncGroupRequest': WHATEVER THE INPUT: true; the input reads as it did. -/
def fnBehindSyncGroupRequestSpec : ChangeSpec := { name := "fnBehindSyncGroupRequest", fn := fun _ => fun
  | [d1, d2, d3] => { results := [.lit (.bool true)], args := [d1, d2, d3] }
  | _ => none }
def fnBehindSyncGroupRequestRow : OpenClaim := { program := "ytkoeaaababfjkaagreatdoor", sum := "50babbb988f51db29e1c561ecf6407d706c73441df5e2bc20bf9602c199580ef", func := "pub-mailsack/laws.FnBehindSyncGroupRequest", spec := "fnBehindSyncGroupRequest", inPlace := ["internal/reflectlite.ValueOf", "internal/reflectlite.Swapper", "(internal/reflectlite.Value).Len"], unfollowed := true, recurses := true, named := ["encoding/binary.BigEndian", "pub-mailsack/pub/kmsg/inner/kbin.ErrNotEnoughData"], loops := true, apart := false, laid := [("pub-mailsack/pub/kmsg/inner/kbin.ErrNotEnoughData", laid_pub_mailsack_pub_kmsg_inner_kbin_ErrNotEnoughData)] }
def FnBehindSyncGroupRequestSaid : Prop := fnBehindSyncGroupRequestRow.holds Tryz.pinned (OpenSpec.ofChange fnBehindSyncGroupRequestSpec)

/-- ITS FALSE NEIGHBOUR: 'it returns false'. Refute it at one input. -/
def fnBehindSyncGroupRequestWrong : ChangeSpec := { name := "fnBehindSyncGroupRequest", fn := fun _ => fun
  | [d1, d2, d3] => { results := [.lit (.bool false)], args := [d1, d2, d3] }
  | _ => none }
def FnBehindSyncGroupRequestWrongFalsely : Prop := fnBehindSyncGroupRequestRow.holds Tryz.pinned (OpenSpec.ofChange fnBehindSyncGroupRequestWrong)

/-- 'laws.FnBehindAlterClientQuotasRequest': WHATEVER THE INPUT: true; the input reads as it did. -/
def fnBehindAlterClientQuotasRequestSpec : ChangeSpec := { name := "fnBehindAlterClientQuotasRequest", fn := fun _ => fun
  | [d1, d2, d3] => { results := [.lit (.bool true)], args := [d1, d2, d3] }
  | _ => none }
def fnBehindAlterClientQuotasRequestRow : OpenClaim := { program := "ytkoeaaababfjkaagreatdoor", sum := "50babbb988f51db29e1c561ecf6407d706c73441df5e2bc20bf9602c199580ef", func := "pub-mailsack/laws.FnBehindAlterClientQuotasRequest", spec := "fnBehindAlterClientQuotasRequest", inPlace := ["math.Float64frombits", "internal/reflectlite.ValueOf", "internal/reflectlite.Swapper", "(internal/reflectlite.Value).Len", "math.Float64bits"], unfollowed := true, recurses := true, named := ["encoding/binary.BigEndian", "pub-mailsack/pub/kmsg/inner/kbin.ErrNotEnoughData"], loops := true, apart := false, laid := [("pub-mailsack/pub/kmsg/inner/kbin.ErrNotEnoughData", laid_pub_mailsack_pub_kmsg_inner_kbin_ErrNotEnoughData)] }
def FnBehindAlterClientQuotasRequestSaid : Prop := fnBehindAlterClientQuotasRequestRow.holds Tryz.pinned (OpenSpec.ofChange fnBehindAlterClientQuotasRequestSpec)

/-- ITS FALSE NEIGHBOUR: 'it returns false'. Refute it at one input. -/
def fnBehindAlterClientQuotasRequestWrong : ChangeSpec := { name := "fnBehindAlterClientQuotasRequest", fn := fun _ => fun
  | [d1, d2, d3] => { results := [.lit (.bool false)], args := [d1, d2, d3] }
  | _ => none }
def FnBehindAlterClientQuotasRequestWrongFalsely : Prop := fnBehindAlterClientQuotasRequestRow.holds Tryz.pinned (OpenSpec.ofChange fnBehindAlterClientQuotasRequestWrong)

/- THE SECOND FORM. 'bulk': how many values and letters a reading holds, each counted each time it is reached (what is shared counts as often as it is met; a slice's spare places count too). A statement '..UptoSaid' is the law's where the arguments, and the package variables that the reading takes, are together of bulk at most 1048576: NARROWER than '..Said'. Prove '..Said' where nothing that the law and all that it calls make is longer than what came in: it says more and counts as full. Else prove '..UptoSaid'. A law counts once. -/
mutual
def uptoBulk {H : Type} : DataW H → Nat
  | .lit (.string bytes) => bytes.length + 1
  | .lit _ => 1
  | .nil => 1
  | .ptr d => uptoBulk d + 1
  | .slice elems spare => uptoBulkAll elems + uptoBulkAll spare + 1
  | .agg parts => uptoBulkAll parts + 1
  | .iface _ d => uptoBulk d + 1
  | .map entries => uptoBulkEntries entries + 1
  | .held _ => 1
def uptoBulkAll {H : Type} : List (DataW H) → Nat
  | [] => 0
  | d :: r => uptoBulk d + uptoBulkAll r
def uptoBulkEntries {H : Type} : List (Lit × DataW H) → Nat
  | [] => 0
  | x :: r => uptoBulkEntry x + uptoBulkEntries r
def uptoBulkEntry {H : Type} : Lit × DataW H → Nat
  | (.string bytes, d) => bytes.length + uptoBulk d + 1
  | (_, d) => uptoBulk d + 1
 end
def uptoSmall : (H : Type) → List (DataW H) → Bool := fun _ ds => decide (uptoBulkAll ds ≤ 1048576)
def OpenSpec.upto (s : _root_.Go.ChangeSpec) : _root_.Go.OpenSpec := { _root_.Go.OpenSpec.ofChange s with cond := some uptoSmall }

/-- 'laws.FnBehindAddRaftVoterResponse', WHERE WHAT IT READS IS OF BULK AT MOST 1048576: true; the input reads as it did. -/
def fnBehindAddRaftVoterResponseUptoRow : OpenClaim := { program := "ytkoeaaababfjkaagreatdoor", sum := "50babbb988f51db29e1c561ecf6407d706c73441df5e2bc20bf9602c199580ef", func := "pub-mailsack/laws.FnBehindAddRaftVoterResponse", spec := "fnBehindAddRaftVoterResponse", inPlace := ["internal/reflectlite.ValueOf", "internal/reflectlite.Swapper", "(internal/reflectlite.Value).Len"], unfollowed := true, recurses := true, named := ["encoding/binary.BigEndian", "pub-mailsack/pub/kmsg/inner/kbin.ErrNotEnoughData"], loops := true, apart := false, laid := [("pub-mailsack/pub/kmsg/inner/kbin.ErrNotEnoughData", laid_pub_mailsack_pub_kmsg_inner_kbin_ErrNotEnoughData)], narrowed := true }
def FnBehindAddRaftVoterResponseUptoSaid : Prop := fnBehindAddRaftVoterResponseUptoRow.holds Tryz.pinned (OpenSpec.upto fnBehindAddRaftVoterResponseSpec)

/-- 'laws.FnBehindRemoveRaftVoterRequest', WHERE WHAT IT READS IS OF BULK AT MOST 1048576: true; the input reads as it did. -/
def fnBehindRemoveRaftVoterRequestUptoRow : OpenClaim := { program := "ytkoeaaababfjkaagreatdoor", sum := "50babbb988f51db29e1c561ecf6407d706c73441df5e2bc20bf9602c199580ef", func := "pub-mailsack/laws.FnBehindRemoveRaftVoterRequest", spec := "fnBehindRemoveRaftVoterRequest", inPlace := ["internal/reflectlite.ValueOf", "internal/reflectlite.Swapper", "(internal/reflectlite.Value).Len"], unfollowed := true, recurses := true, named := ["encoding/binary.BigEndian", "pub-mailsack/pub/kmsg/inner/kbin.ErrNotEnoughData"], loops := true, apart := false, laid := [("pub-mailsack/pub/kmsg/inner/kbin.ErrNotEnoughData", laid_pub_mailsack_pub_kmsg_inner_kbin_ErrNotEnoughData)], narrowed := true }
def FnBehindRemoveRaftVoterRequestUptoSaid : Prop := fnBehindRemoveRaftVoterRequestUptoRow.holds Tryz.pinned (OpenSpec.upto fnBehindRemoveRaftVoterRequestSpec)

/-- 'laws.FnBehindDescribeLogDirsRequest', WHERE WHAT IT READS IS OF BULK AT MOST 1048576: true; the input reads as it did. -/
def fnBehindDescribeLogDirsRequestUptoRow : OpenClaim := { program := "ytkoeaaababfjkaagreatdoor", sum := "50babbb988f51db29e1c561ecf6407d706c73441df5e2bc20bf9602c199580ef", func := "pub-mailsack/laws.FnBehindDescribeLogDirsRequest", spec := "fnBehindDescribeLogDirsRequest", inPlace := ["internal/reflectlite.ValueOf", "internal/reflectlite.Swapper", "(internal/reflectlite.Value).Len"], unfollowed := true, recurses := true, named := ["encoding/binary.BigEndian", "pub-mailsack/pub/kmsg/inner/kbin.ErrNotEnoughData"], loops := true, apart := false, laid := [("pub-mailsack/pub/kmsg/inner/kbin.ErrNotEnoughData", laid_pub_mailsack_pub_kmsg_inner_kbin_ErrNotEnoughData)], narrowed := true }
def FnBehindDescribeLogDirsRequestUptoSaid : Prop := fnBehindDescribeLogDirsRequestUptoRow.holds Tryz.pinned (OpenSpec.upto fnBehindDescribeLogDirsRequestSpec)

/-- 'laws.FnBehindAlterConfigsResponse', WHERE WHAT IT READS IS OF BULK AT MOST 1048576: true; the input reads as it did. -/
def fnBehindAlterConfigsResponseUptoRow : OpenClaim := { program := "ytkoeaaababfjkaagreatdoor", sum := "50babbb988f51db29e1c561ecf6407d706c73441df5e2bc20bf9602c199580ef", func := "pub-mailsack/laws.FnBehindAlterConfigsResponse", spec := "fnBehindAlterConfigsResponse", inPlace := ["internal/reflectlite.ValueOf", "internal/reflectlite.Swapper", "(internal/reflectlite.Value).Len"], unfollowed := true, recurses := true, named := ["encoding/binary.BigEndian", "pub-mailsack/pub/kmsg/inner/kbin.ErrNotEnoughData"], loops := true, apart := false, laid := [("pub-mailsack/pub/kmsg/inner/kbin.ErrNotEnoughData", laid_pub_mailsack_pub_kmsg_inner_kbin_ErrNotEnoughData)], narrowed := true }
def FnBehindAlterConfigsResponseUptoSaid : Prop := fnBehindAlterConfigsResponseUptoRow.holds Tryz.pinned (OpenSpec.upto fnBehindAlterConfigsResponseSpec)

/-- 'laws.FnBehindElectLeadersResponse', WHERE WHAT IT READS IS OF BULK AT MOST 1048576: true; the input reads as it did. -/
def fnBehindElectLeadersResponseUptoRow : OpenClaim := { program := "ytkoeaaababfjkaagreatdoor", sum := "50babbb988f51db29e1c561ecf6407d706c73441df5e2bc20bf9602c199580ef", func := "pub-mailsack/laws.FnBehindElectLeadersResponse", spec := "fnBehindElectLeadersResponse", inPlace := ["internal/reflectlite.ValueOf", "internal/reflectlite.Swapper", "(internal/reflectlite.Value).Len"], unfollowed := true, recurses := true, named := ["encoding/binary.BigEndian", "pub-mailsack/pub/kmsg/inner/kbin.ErrNotEnoughData"], loops := true, apart := false, laid := [("pub-mailsack/pub/kmsg/inner/kbin.ErrNotEnoughData", laid_pub_mailsack_pub_kmsg_inner_kbin_ErrNotEnoughData)], narrowed := true }
def FnBehindElectLeadersResponseUptoSaid : Prop := fnBehindElectLeadersResponseUptoRow.holds Tryz.pinned (OpenSpec.upto fnBehindElectLeadersResponseSpec)

/-- 'laws.FnBehindSyncGroupRequest', WHERE WHAT IT READS IS OF BULK AT MOST 1048576: true; the input reads as it did. -/
def fnBehindSyncGroupRequestUptoRow : OpenClaim := { program := "ytkoeaaababfjkaagreatdoor", sum := "50babbb988f51db29e1c561ecf6407d706c73441df5e2bc20bf9602c199580ef", func := "pub-mailsack/laws.FnBehindSyncGroupRequest", spec := "fnBehindSyncGroupRequest", inPlace := ["internal/reflectlite.ValueOf", "internal/reflectlite.Swapper", "(internal/reflectlite.Value).Len"], unfollowed := true, recurses := true, named := ["encoding/binary.BigEndian", "pub-mailsack/pub/kmsg/inner/kbin.ErrNotEnoughData"], loops := true, apart := false, laid := [("pub-mailsack/pub/kmsg/inner/kbin.ErrNotEnoughData", laid_pub_mailsack_pub_kmsg_inner_kbin_ErrNotEnoughData)], narrowed := true }
def FnBehindSyncGroupRequestUptoSaid : Prop := fnBehindSyncGroupRequestUptoRow.holds Tryz.pinned (OpenSpec.upto fnBehindSyncGroupRequestSpec)

/-- 'laws.FnBehindAlterClientQuotasRequest', WHERE WHAT IT READS IS OF BULK AT MOST 1048576: true; the input reads as it did. -/
def fnBehindAlterClientQuotasRequestUptoRow : OpenClaim := { program := "ytkoeaaababfjkaagreatdoor", sum := "50babbb988f51db29e1c561ecf6407d706c73441df5e2bc20bf9602c199580ef", func := "pub-mailsack/laws.FnBehindAlterClientQuotasRequest", spec := "fnBehindAlterClientQuotasRequest", inPlace := ["math.Float64frombits", "internal/reflectlite.ValueOf", "internal/reflectlite.Swapper", "(internal/reflectlite.Value).Len", "math.Float64bits"], unfollowed := true, recurses := true, named := ["encoding/binary.BigEndian", "pub-mailsack/pub/kmsg/inner/kbin.ErrNotEnoughData"], loops := true, apart := false, laid := [("pub-mailsack/pub/kmsg/inner/kbin.ErrNotEnoughData", laid_pub_mailsack_pub_kmsg_inner_kbin_ErrNotEnoughData)], narrowed := true }
def FnBehindAlterClientQuotasRequestUptoSaid : Prop := fnBehindAlterClientQuotasRequestUptoRow.holds Tryz.pinned (OpenSpec.upto fnBehindAlterClientQuotasRequestSpec)

end Rows
end Go.Proofs.YtkoeaaababfjkaaGreatDoor
