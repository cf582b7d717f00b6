/-
  NARROWER THAN 'FOR EVERY INPUT', by the rows' own cells (each row's printed sentence says how): FnFrameDeleteACLsRequest: loops, laid · FnFrameAddPartitionsToTxnRequest: loops, laid · FnFrameControlledShutdownRequest: loops, laid · FnFrameEndTxnRequest: loops, laid · FnFrameDescribeUserSCRAMCredentialsRequest: loops, laid · FnFrameShareGroupDescribeRequest: loops, laid · FnFrameStreamsGroupDescribeRequest: loops, laid · FnFrameDeleteShareGroupOffsetsRequest: loops, laid · FnFrameDescribeShareGroupOffsetsRequest: loops, laid.
  DERIVED. THE GIVEN ROWS OF THIS SEAT. 9 by the template 'for every input the law returns true; each argument reads behind the call as it read before'; 0 by the template 'total and deterministic' (their statements: YtdpckciobjkobaaGreatDoorTotals.lean).
  GIVEN WITH THE SEED: the statements are not yours to turn. If you find one false, say at which input.
  Laid BY PROGRAM, IN A SANDBOX (cutbox-rows.mjs): the forced cells as the released guide's own fill.sh prints them over the translation 3432e0da0471b52c… (all of the seat's roots in one cut). By AI agents, Wed Nov 11 2026. No macro, syntax, notation, axiom, sorry.
-/
import Derived.Test.YtdpckciobjkobaaGreatDoorChecked
import GoSem.Claim
import GoSem.ClaimJoined
import GoSem.ClaimMapViews
import Derived.JoinedTies
import Derived.KernelRfl
namespace Go.Proofs.YtdpckciobjkobaaGreatDoor
/- THE CELL 'sum', in the pinned program and in every row, IS THE sha256 OF THE DUMP (.gsa) THAT YtdpckciobjkobaaGreatDoorProg.lean LOADS. Nothing in Lean hashes anything: it is a label: what it is worth is what the hold of that sum in a sandbox is worth. -/
noncomputable def Tryz.pinned : Pinned := { name := "ytdpckciobjkobaagreatdoor", sum := "3432e0da0471b52cbc2eca5bdf0fbdd0a4e49185d115347a0441139302db62f2", checked := Tryz.checked }
namespace Rows
def none {H : Type} : Left H := { results := [], args := [] }

/- WHAT THE LISTED PACKAGE-LEVEL VARIABLES READ AS WHEN THE CALL BEGINS. Each datum BY PROGRAM (the guide's laid-datum.mjs) off the statement by which the dump's own 'gosem.cut.vars' lays the variable. In a bare row this is a premise. The card (YtdpckciobjkobaaGreatDoorCards.lean) ties it to the program's text. -/
def laid_pub_mailsack_pub_kmsg_inner_kbin_ErrNotEnoughData {H : Type} : DataW H := .iface "*errors.errorString" (.ptr (.agg [.lit (.string [114, 101, 115, 112, 111, 110, 115, 101, 32, 100, 105, 100, 32, 110, 111, 116, 32, 99, 111, 110, 116, 97, 105, 110, 32, 101, 110, 111, 117, 103, 104, 32, 100, 97, 116, 97, 32, 116, 111, 32, 98, 101, 32, 118, 97, 108, 105, 100])]))

/-- 'laws.FnFrameDeleteACLsRequest': WHATEVER THE INPUT: true; the input reads as it did. -/
def fnFrameDeleteACLsRequestSpec : ChangeSpec := { name := "fnFrameDeleteACLsRequest", fn := fun _ => fun
  | [d1, d2, d3, d4] => { results := [.lit (.bool true)], args := [d1, d2, d3, d4] }
  | _ => none }
def fnFrameDeleteACLsRequestRow : OpenClaim := { program := "ytdpckciobjkobaagreatdoor", sum := "3432e0da0471b52cbc2eca5bdf0fbdd0a4e49185d115347a0441139302db62f2", func := "pub-mailsack/laws.FnFrameDeleteACLsRequest", spec := "fnFrameDeleteACLsRequest", unfollowed := true, recurses := true, named := ["encoding/binary.BigEndian", "pub-mailsack/pub/kmsg/inner/kbin.ErrNotEnoughData"], loops := true, apart := false, laid := [("pub-mailsack/pub/kmsg/inner/kbin.ErrNotEnoughData", laid_pub_mailsack_pub_kmsg_inner_kbin_ErrNotEnoughData)] }
def FnFrameDeleteACLsRequestSaid : Prop := fnFrameDeleteACLsRequestRow.holds Tryz.pinned (OpenSpec.ofChange fnFrameDeleteACLsRequestSpec)

/-- ITS FALSE NEIGHBOUR: 'it returns false'. Refute it at one input. -/
def fnFrameDeleteACLsRequestWrong : ChangeSpec := { name := "fnFrameDeleteACLsRequest", fn := fun _ => fun
  | [d1, d2, d3, d4] => { results := [.lit (.bool false)], args := [d1, d2, d3, d4] }
  | _ => none }
def FnFrameDeleteACLsRequestWrongFalsely : Prop := fnFrameDeleteACLsRequestRow.holds Tryz.pinned (OpenSpec.ofChange fnFrameDeleteACLsRequestWrong)

/-- 'laws.FnFrameAddPartitionsToTxnRequest': WHATEVER THE INPUT: true; the input reads as it did. -/
def fnFrameAddPartitionsToTxnRequestSpec : ChangeSpec := { name := "fnFrameAddPartitionsToTxnRequest", fn := fun _ => fun
  | [d1, d2, d3, d4] => { results := [.lit (.bool true)], args := [d1, d2, d3, d4] }
  | _ => none }
def fnFrameAddPartitionsToTxnRequestRow : OpenClaim := { program := "ytdpckciobjkobaagreatdoor", sum := "3432e0da0471b52cbc2eca5bdf0fbdd0a4e49185d115347a0441139302db62f2", func := "pub-mailsack/laws.FnFrameAddPartitionsToTxnRequest", spec := "fnFrameAddPartitionsToTxnRequest", unfollowed := true, recurses := true, named := ["encoding/binary.BigEndian", "pub-mailsack/pub/kmsg/inner/kbin.ErrNotEnoughData"], loops := true, apart := false, laid := [("pub-mailsack/pub/kmsg/inner/kbin.ErrNotEnoughData", laid_pub_mailsack_pub_kmsg_inner_kbin_ErrNotEnoughData)] }
def FnFrameAddPartitionsToTxnRequestSaid : Prop := fnFrameAddPartitionsToTxnRequestRow.holds Tryz.pinned (OpenSpec.ofChange fnFrameAddPartitionsToTxnRequestSpec)

/-- ITS FALSE NEIGHBOUR: 'it returns false'. Refute it at one input. -/
def fnFrameAddPartitionsToTxnRequestWrong : ChangeSpec := { name := "fnFrameAddPartitionsToTxnRequest", fn := fun _ => fun
  | [d1, d2, d3, d4] => { results := [.lit (.bool false)], args := [d1, d2, d3, d4] }
  | _ => none }
def FnFrameAddPartitionsToTxnRequestWrongFalsely : Prop := fnFrameAddPartitionsToTxnRequestRow.holds Tryz.pinned (OpenSpec.ofChange fnFrameAddPartitionsToTxnRequestWrong)

/-- 'laws.FnFrameControlledShutdownRequest': WHATEVER THE INPUT: true; the input reads as it did. -/
def fnFrameControlledShutdownRequestSpec : ChangeSpec := { name := "fnFrameControlledShutdownRequest", fn := fun _ => fun
  | [d1, d2, d3, d4] => { results := [.lit (.bool true)], args := [d1, d2, d3, d4] }
  | _ => none }
def fnFrameControlledShutdownRequestRow : OpenClaim := { program := "ytdpckciobjkobaagreatdoor", sum := "3432e0da0471b52cbc2eca5bdf0fbdd0a4e49185d115347a0441139302db62f2", func := "pub-mailsack/laws.FnFrameControlledShutdownRequest", spec := "fnFrameControlledShutdownRequest", unfollowed := true, recurses := true, named := ["encoding/binary.BigEndian", "pub-mailsack/pub/kmsg/inner/kbin.ErrNotEnoughData"], loops := true, apart := false, laid := [("pub-mailsack/pub/kmsg/inner/kbin.ErrNotEnoughData", laid_pub_mailsack_pub_kmsg_inner_kbin_ErrNotEnoughData)] }
def FnFrameControlledShutdownRequestSaid : Prop := fnFrameControlledShutdownRequestRow.holds Tryz.pinned (OpenSpec.ofChange fnFrameControlledShutdownRequestSpec)

/-- ITS FALSE NEIGHBOUR: 'it returns false'. Refute it at one input. -/
def fnFrameControlledShutdownRequestWrong : ChangeSpec := { name := "fnFrameControlledShutdownRequest", fn := fun _ => fun
  | [d1, d2, d3, d4] => { results := [.lit (.bool false)], args := [d1, d2, d3, d4] }
  | _ => none }
def FnFrameControlledShutdownRequestWrongFalsely : Prop := fnFrameControlledShutdownRequestRow.holds Tryz.pinned (OpenSpec.ofChange fnFrameControlledShutdownRequestWrong)

/-- 'laws.FnFrameEndTxnRequest': WHATEVER THE INPUT: true; the input reads as it did. -/
def fnFrameEndTxnRequestSpec : ChangeSpec := { name := "fnFrameEndTxnRequest", fn := fun _ => fun
  | [d1, d2, d3, d4] => { results := [.lit (.bool true)], args := [d1, d2, d3, d4] }
  | _ => none }
def fnFrameEndTxnRequestRow : OpenClaim := { program := "ytdpckciobjkobaagreatdoor", sum := "3432e0da0471b52cbc2eca5bdf0fbdd0a4e49185d115347a0441139302db62f2", func := "pub-mailsack/laws.FnFrameEndTxnRequest", spec := "fnFrameEndTxnRequest", unfollowed := true, recurses := true, named := ["encoding/binary.BigEndian", "pub-mailsack/pub/kmsg/inner/kbin.ErrNotEnoughData"], loops := true, apart := false, laid := [("pub-mailsack/pub/kmsg/inner/kbin.ErrNotEnoughData", laid_pub_mailsack_pub_kmsg_inner_kbin_ErrNotEnoughData)] }
def FnFrameEndTxnRequestSaid : Prop := fnFrameEndTxnRequestRow.holds Tryz.pinned (OpenSpec.ofChange fnFrameEndTxnRequestSpec)

/-- ITS FALSE NEIGHBOUR: 'it returns false'. Refute it at one input. -/
def fnFrameEndTxnRequestWrong : ChangeSpec := { name := "fnFrameEndTxnRequest", fn := fun _ => fun
  | [d1, d2, d3, d4] => { results := [.lit (.bool false)], args := [d1, d2, d3, d4] }
  | _ => none }
def FnFrameEndTxnRequestWrongFalsely : Prop := fnFrameEndTxnRequestRow.holds Tryz.pinned (OpenSpec.ofChange fnFrameEndTxnRequestWrong)

/-- 'laws.FnFrameDescribeUserSCRAMCredentialsRequest': WHATEVER THE INPUT: true; the input reads as it did. -/
def fnFrameDescribeUserSCRAMCredentialsRequestSpec : ChangeSpec := { name := "fnFrameDescribeUserSCRAMCredentialsRequest", fn := fun _ => fun
  | [d1, d2, d3, d4] => { results := [.lit (.bool true)], args := [d1, d2, d3, d4] }
  | _ => none }
def fnFrameDescribeUserSCRAMCredentialsRequestRow : OpenClaim := { program := "ytdpckciobjkobaagreatdoor", sum := "3432e0da0471b52cbc2eca5bdf0fbdd0a4e49185d115347a0441139302db62f2", func := "pub-mailsack/laws.FnFrameDescribeUserSCRAMCredentialsRequest", spec := "fnFrameDescribeUserSCRAMCredentialsRequest", unfollowed := true, recurses := true, named := ["encoding/binary.BigEndian", "pub-mailsack/pub/kmsg/inner/kbin.ErrNotEnoughData"], loops := true, apart := false, laid := [("pub-mailsack/pub/kmsg/inner/kbin.ErrNotEnoughData", laid_pub_mailsack_pub_kmsg_inner_kbin_ErrNotEnoughData)] }
def FnFrameDescribeUserSCRAMCredentialsRequestSaid : Prop := fnFrameDescribeUserSCRAMCredentialsRequestRow.holds Tryz.pinned (OpenSpec.ofChange fnFrameDescribeUserSCRAMCredentialsRequestSpec)

/-- ITS FALSE NEIGHBOUR: 'it returns false'. Refute it at one input. -/
def fnFrameDescribeUserSCRAMCredentialsRequestWrong : ChangeSpec := { name := "fnFrameDescribeUserSCRAMCredentialsRequest", fn := fun _ => fun
  | [d1, d2, d3, d4] => { results := [.lit (.bool false)], args := [d1, d2, d3, d4] }
  | _ => none }
def FnFrameDescribeUserSCRAMCredentialsRequestWrongFalsely : Prop := fnFrameDescribeUserSCRAMCredentialsRequestRow.holds Tryz.pinned (OpenSpec.ofChange fnFrameDescribeUserSCRAMCredentialsRequestWrong)

/-- 'laws.FnFrameShareGroupDescribeRequest': WHATEVER THE INPUT: true; the input reads as it did. -/
def fnFrameShareGroupDescribeRequestSpec : ChangeSpec := { name := "fnFrameShareGroupDescribeRequest", fn := fun _ => fun
  | [d1, d2, d3, d4] => { results := [.lit (.bool true)], args := [d1, d2, d3, d4] }
  | _ => none }
def fnFrameShareGroupDescribeRequestRow : OpenClaim := { program := "ytdpckciobjkobaagreatdoor", sum := "3432e0da0471b52cbc2eca5bdf0fbdd0a4e49185d115347a0441139302db62f2", func := "pub-mailsack/laws.FnFrameShareGroupDescribeRequest", spec := "fnFrameShareGroupDescribeRequest", unfollowed := true, recurses := true, named := ["encoding/binary.BigEndian", "pub-mailsack/pub/kmsg/inner/kbin.ErrNotEnoughData"], loops := true, apart := false, laid := [("pub-mailsack/pub/kmsg/inner/kbin.ErrNotEnoughData", laid_pub_mailsack_pub_kmsg_inner_kbin_ErrNotEnoughData)] }
def FnFrameShareGroupDescribeRequestSaid : Prop := fnFrameShareGroupDescribeRequestRow.holds Tryz.pinned (OpenSpec.ofChange fnFrameShareGroupDescribeRequestSpec)

/-- ITS FALSE NEIGHBOUR: 'it returns false'. Refute it at one input. -/
def fnFrameShareGroupDescribeRequestWrong : ChangeSpec := { name := "fnFrameShareGroupDescribeRequest", fn := fun _ => fun
  | [d1, d2, d3, d4] => { results := [.lit (.bool false)], args := [d1, d2, d3, d4] }
  | _ => none }
def FnFrameShareGroupDescribeRequestWrongFalsely : Prop := fnFrameShareGroupDescribeRequestRow.holds Tryz.pinned (OpenSpec.ofChange fnFrameShareGroupDescribeRequestWrong)

/-- 'laws.FnFrameStreamsGroupDescribeRequest': WHATEVER THE INPUT: true; the input reads as it did. -/
def fnFrameStreamsGroupDescribeRequestSpec : ChangeSpec := { name := "fnFrameStreamsGroupDescribeRequest", fn := fun _ => fun
  | [d1, d2, d3, d4] => { results := [.lit (.bool true)], args := [d1, d2, d3, d4] }
  | _ => none }
def fnFrameStreamsGroupDescribeRequestRow : OpenClaim := { program := "ytdpckciobjkobaagreatdoor", sum := "3432e0da0471b52cbc2eca5bdf0fbdd0a4e49185d115347a0441139302db62f2", func := "pub-mailsack/laws.FnFrameStreamsGroupDescribeRequest", spec := "fnFrameStreamsGroupDescribeRequest", unfollowed := true, recurses := true, named := ["encoding/binary.BigEndian", "pub-mailsack/pub/kmsg/inner/kbin.ErrNotEnoughData"], loops := true, apart := false, laid := [("pub-mailsack/pub/kmsg/inner/kbin.ErrNotEnoughData", laid_pub_mailsack_pub_kmsg_inner_kbin_ErrNotEnoughData)] }
def FnFrameStreamsGroupDescribeRequestSaid : Prop := fnFrameStreamsGroupDescribeRequestRow.holds Tryz.pinned (OpenSpec.ofChange fnFrameStreamsGroupDescribeRequestSpec)

/-- ITS FALSE NEIGHBOUR: 'it returns false'. Refute it at one input. -/
def fnFrameStreamsGroupDescribeRequestWrong : ChangeSpec := { name := "fnFrameStreamsGroupDescribeRequest", fn := fun _ => fun
  | [d1, d2, d3, d4] => { results := [.lit (.bool false)], args := [d1, d2, d3, d4] }
  | _ => none }
def FnFrameStreamsGroupDescribeRequestWrongFalsely : Prop := fnFrameStreamsGroupDescribeRequestRow.holds Tryz.pinned (OpenSpec.ofChange fnFrameStreamsGroupDescribeRequestWrong)

/-- 'laws.FnFrameDeleteShareGroupOffsetsRequest': WHATEVER THE INPUT: true; the input reads as it did. -/
def fnFrameDeleteShareGroupOffsetsRequestSpec : ChangeSpec := { name := "fnFrameDeleteShareGroupOffsetsRequest", fn := fun _ => fun
  | [d1, d2, d3, d4] => { results := [.lit (.bool true)], args := [d1, d2, d3, d4] }
  | _ => none }
def fnFrameDeleteShareGroupOffsetsRequestRow : OpenClaim := { program := "ytdpckciobjkobaagreatdoor", sum := "3432e0da0471b52cbc2eca5bdf0fbdd0a4e49185d115347a0441139302db62f2", func := "pub-mailsack/laws.FnFrameDeleteShareGroupOffsetsRequest", spec := "fnFrameDeleteShareGroupOffsetsRequest", unfollowed := true, recurses := true, named := ["encoding/binary.BigEndian", "pub-mailsack/pub/kmsg/inner/kbin.ErrNotEnoughData"], loops := true, apart := false, laid := [("pub-mailsack/pub/kmsg/inner/kbin.ErrNotEnoughData", laid_pub_mailsack_pub_kmsg_inner_kbin_ErrNotEnoughData)] }
def FnFrameDeleteShareGroupOffsetsRequestSaid : Prop := fnFrameDeleteShareGroupOffsetsRequestRow.holds Tryz.pinned (OpenSpec.ofChange fnFrameDeleteShareGroupOffsetsRequestSpec)

/-- ITS FALSE NEIGHBOUR: 'it returns false'. Refute it at one input. -/
def fnFrameDeleteShareGroupOffsetsRequestWrong : ChangeSpec := { name := "fnFrameDeleteShareGroupOffsetsRequest", fn := fun _ => fun
  | [d1, d2, d3, d4] => { results := [.lit (.bool false)], args := [d1, d2, d3, d4] }
  | _ => none }
def FnFrameDeleteShareGroupOffsetsRequestWrongFalsely : Prop := fnFrameDeleteShareGroupOffsetsRequestRow.holds Tryz.pinned (OpenSpec.ofChange fnFrameDeleteShareGroupOffsetsRequestWrong)

/-- 'laws.FnFrameDescribeShareGroupOffsetsRequest': WHATEVER THE INPUT: true; the input reads as it did. -/
def fnFrameDescribeShareGroupOffsetsRequestSpec : ChangeSpec := { name := "fnFrameDescribeShareGroupOffsetsRequest", fn := fun _ => fun
  | [d1, d2, d3, d4] => { results := [.lit (.bool true)], args := [d1, d2, d3, d4] }
  | _ => none }
def fnFrameDescribeShareGroupOffsetsRequestRow : OpenClaim := { program := "ytdpckciobjkobaagreatdoor", sum := "3432e0da0471b52cbc2eca5bdf0fbdd0a4e49185d115347a0441139302db62f2", func := "pub-mailsack/laws.FnFrameDescribeShareGroupOffsetsRequest", spec := "fnFrameDescribeShareGroupOffsetsRequest", unfollowed := true, recurses := true, named := ["encoding/binary.BigEndian", "pub-mailsack/pub/kmsg/inner/kbin.ErrNotEnoughData"], loops := true, apart := false, laid := [("pub-mailsack/pub/kmsg/inner/kbin.ErrNotEnoughData", laid_pub_mailsack_pub_kmsg_inner_kbin_ErrNotEnoughData)] }
def FnFrameDescribeShareGroupOffsetsRequestSaid : Prop := fnFrameDescribeShareGroupOffsetsRequestRow.holds Tryz.pinned (OpenSpec.ofChange fnFrameDescribeShareGroupOffsetsRequestSpec)

/-- ITS FALSE NEIGHBOUR: 'it returns false'. Refute it at one input. -/
def fnFrameDescribeShareGroupOffsetsRequestWrong : ChangeSpec := { name := "fnFrameDescribeShareGroupOffsetsRequest", fn := fun _ => fun
  | [d1, d2, d3, d4] => { results := [.lit (.bool false)], args := [d1, d2, d3, d4] }
  | _ => none }
def FnFrameDescribeShareGroupOffsetsRequestWrongFalsely : Prop := fnFrameDescribeShareGroupOffsetsRequestRow.holds Tryz.pinned (OpenSpec.ofChange fnFrameDescribeShareGroupOffsetsRequestWrong)

/- THE SECOND FORM. 'bulk': how many values and letters a reading holds, each counted each time it is reached (what is shared counts as often as it is met; a slice's spare places count too). A statement '..UptoSaid' is the law's where the arguments, and the package variables that the reading takes, are together of bulk at most 1048576: NARROWER than '..Said'. Prove '..Said' where nothing that the law and all that it calls make is longer than what came in: it says more and counts as full. Else prove '..UptoSaid'. A law counts once. -/
mutual
def uptoBulk {H : Type} : DataW H → Nat
  | .lit (.string bytes) => bytes.length + 1
  | .lit _ => 1
  | .nil => 1
  | .ptr d => uptoBulk d + 1
  | .slice elems spare => uptoBulkAll elems + uptoBulkAll spare + 1
  | .agg parts => uptoBulkAll parts + 1
  | .iface _ d => uptoBulk d + 1
  | .map entries => uptoBulkEntries entries + 1
  | .held _ => 1
def uptoBulkAll {H : Type} : List (DataW H) → Nat
  | [] => 0
  | d :: r => uptoBulk d + uptoBulkAll r
def uptoBulkEntries {H : Type} : List (Lit × DataW H) → Nat
  | [] => 0
  | x :: r => uptoBulkEntry x + uptoBulkEntries r
def uptoBulkEntry {H : Type} : Lit × DataW H → Nat
  | (.string bytes, d) => bytes.length + uptoBulk d + 1
  | (_, d) => uptoBulk d + 1
 end
def uptoSmall : (H : Type) → List (DataW H) → Bool := fun _ ds => decide (uptoBulkAll ds ≤ 1048576)
def OpenSpec.upto (s : _root_.Go.ChangeSpec) : _root_.Go.OpenSpec := { _root_.Go.OpenSpec.ofChange s with cond := some uptoSmall }

/-- 'laws.FnFrameDeleteACLsRequest', WHERE WHAT IT READS IS OF BULK AT MOST 1048576: true; the input reads as it did. -/
def fnFrameDeleteACLsRequestUptoRow : OpenClaim := { program := "ytdpckciobjkobaagreatdoor", sum := "3432e0da0471b52cbc2eca5bdf0fbdd0a4e49185d115347a0441139302db62f2", func := "pub-mailsack/laws.FnFrameDeleteACLsRequest", spec := "fnFrameDeleteACLsRequest", unfollowed := true, recurses := true, named := ["encoding/binary.BigEndian", "pub-mailsack/pub/kmsg/inner/kbin.ErrNotEnoughData"], loops := true, apart := false, laid := [("pub-mailsack/pub/kmsg/inner/kbin.ErrNotEnoughData", laid_pub_mailsack_pub_kmsg_inner_kbin_ErrNotEnoughData)], narrowed := true }
def FnFrameDeleteACLsRequestUptoSaid : Prop := fnFrameDeleteACLsRequestUptoRow.holds Tryz.pinned (OpenSpec.upto fnFrameDeleteACLsRequestSpec)

/-- 'laws.FnFrameAddPartitionsToTxnRequest', WHERE WHAT IT READS IS OF BULK AT MOST 1048576: true; the input reads as it did. -/
def fnFrameAddPartitionsToTxnRequestUptoRow : OpenClaim := { program := "ytdpckciobjkobaagreatdoor", sum := "3432e0da0471b52cbc2eca5bdf0fbdd0a4e49185d115347a0441139302db62f2", func := "pub-mailsack/laws.FnFrameAddPartitionsToTxnRequest", spec := "fnFrameAddPartitionsToTxnRequest", unfollowed := true, recurses := true, named := ["encoding/binary.BigEndian", "pub-mailsack/pub/kmsg/inner/kbin.ErrNotEnoughData"], loops := true, apart := false, laid := [("pub-mailsack/pub/kmsg/inner/kbin.ErrNotEnoughData", laid_pub_mailsack_pub_kmsg_inner_kbin_ErrNotEnoughData)], narrowed := true }
def FnFrameAddPartitionsToTxnRequestUptoSaid : Prop := fnFrameAddPartitionsToTxnRequestUptoRow.holds Tryz.pinned (OpenSpec.upto fnFrameAddPartitionsToTxnRequestSpec)

/-- 'laws.FnFrameControlledShutdownRequest', WHERE WHAT IT READS IS OF BULK AT MOST 1048576: true; the input reads as it did. -/
def fnFrameControlledShutdownRequestUptoRow : OpenClaim := { program := "ytdpckciobjkobaagreatdoor", sum := "3432e0da0471b52cbc2eca5bdf0fbdd0a4e49185d115347a0441139302db62f2", func := "pub-mailsack/laws.FnFrameControlledShutdownRequest", spec := "fnFrameControlledShutdownRequest", unfollowed := true, recurses := true, named := ["encoding/binary.BigEndian", "pub-mailsack/pub/kmsg/inner/kbin.ErrNotEnoughData"], loops := true, apart := false, laid := [("pub-mailsack/pub/kmsg/inner/kbin.ErrNotEnoughData", laid_pub_mailsack_pub_kmsg_inner_kbin_ErrNotEnoughData)], narrowed := true }
def FnFrameControlledShutdownRequestUptoSaid : Prop := fnFrameControlledShutdownRequestUptoRow.holds Tryz.pinned (OpenSpec.upto fnFrameControlledShutdownRequestSpec)

/-- 'laws.FnFrameEndTxnRequest', WHERE WHAT IT READS IS OF BULK AT MOST 1048576: true; the input reads as it did. -/
def fnFrameEndTxnRequestUptoRow : OpenClaim := { program := "ytdpckciobjkobaagreatdoor", sum := "3432e0da0471b52cbc2eca5bdf0fbdd0a4e49185d115347a0441139302db62f2", func := "pub-mailsack/laws.FnFrameEndTxnRequest", spec := "fnFrameEndTxnRequest", unfollowed := true, recurses := true, named := ["encoding/binary.BigEndian", "pub-mailsack/pub/kmsg/inner/kbin.ErrNotEnoughData"], loops := true, apart := false, laid := [("pub-mailsack/pub/kmsg/inner/kbin.ErrNotEnoughData", laid_pub_mailsack_pub_kmsg_inner_kbin_ErrNotEnoughData)], narrowed := true }
def FnFrameEndTxnRequestUptoSaid : Prop := fnFrameEndTxnRequestUptoRow.holds Tryz.pinned (OpenSpec.upto fnFrameEndTxnRequestSpec)

/-- 'laws.FnFrameDescribeUserSCRAMCredentialsRequest', WHERE WHAT IT READS IS OF BULK AT MOST 1048576: true; the input reads as it did. -/
def fnFrameDescribeUserSCRAMCredentialsRequestUptoRow : OpenClaim := { program := "ytdpckciobjkobaagreatdoor", sum := "3432e0da0471b52cbc2eca5bdf0fbdd0a4e49185d115347a0441139302db62f2", func := "pub-mailsack/laws.FnFrameDescribeUserSCRAMCredentialsRequest", spec := "fnFrameDescribeUserSCRAMCredentialsRequest", unfollowed := true, recurses := true, named := ["encoding/binary.BigEndian", "pub-mailsack/pub/kmsg/inner/kbin.ErrNotEnoughData"], loops := true, apart := false, laid := [("pub-mailsack/pub/kmsg/inner/kbin.ErrNotEnoughData", laid_pub_mailsack_pub_kmsg_inner_kbin_ErrNotEnoughData)], narrowed := true }
def FnFrameDescribeUserSCRAMCredentialsRequestUptoSaid : Prop := fnFrameDescribeUserSCRAMCredentialsRequestUptoRow.holds Tryz.pinned (OpenSpec.upto fnFrameDescribeUserSCRAMCredentialsRequestSpec)

/-- 'laws.FnFrameShareGroupDescribeRequest', WHERE WHAT IT READS IS OF BULK AT MOST 1048576: true; the input reads as it did. -/
def fnFrameShareGroupDescribeRequestUptoRow : OpenClaim := { program := "ytdpckciobjkobaagreatdoor", sum := "3432e0da0471b52cbc2eca5bdf0fbdd0a4e49185d115347a0441139302db62f2", func := "pub-mailsack/laws.FnFrameShareGroupDescribeRequest", spec := "fnFrameShareGroupDescribeRequest", unfollowed := true, recurses := true, named := ["encoding/binary.BigEndian", "pub-mailsack/pub/kmsg/inner/kbin.ErrNotEnoughData"], loops := true, apart := false, laid := [("pub-mailsack/pub/kmsg/inner/kbin.ErrNotEnoughData", laid_pub_mailsack_pub_kmsg_inner_kbin_ErrNotEnoughData)], narrowed := true }
def FnFrameShareGroupDescribeRequestUptoSaid : Prop := fnFrameShareGroupDescribeRequestUptoRow.holds Tryz.pinned (OpenSpec.upto fnFrameShareGroupDescribeRequestSpec)

/-- 'laws.FnFrameStreamsGroupDescribeRequest', WHERE WHAT IT READS IS OF BULK AT MOST 1048576: true; the input reads as it did. -/
def fnFrameStreamsGroupDescribeRequestUptoRow : OpenClaim := { program := "ytdpckciobjkobaagreatdoor", sum := "3432e0da0471b52cbc2eca5bdf0fbdd0a4e49185d115347a0441139302db62f2", func := "pub-mailsack/laws.FnFrameStreamsGroupDescribeRequest", spec := "fnFrameStreamsGroupDescribeRequest", unfollowed := true, recurses := true, named := ["encoding/binary.BigEndian", "pub-mailsack/pub/kmsg/inner/kbin.ErrNotEnoughData"], loops := true, apart := false, laid := [("pub-mailsack/pub/kmsg/inner/kbin.ErrNotEnoughData", laid_pub_mailsack_pub_kmsg_inner_kbin_ErrNotEnoughData)], narrowed := true }
def FnFrameStreamsGroupDescribeRequestUptoSaid : Prop := fnFrameStreamsGroupDescribeRequestUptoRow.holds Tryz.pinned (OpenSpec.upto fnFrameStreamsGroupDescribeRequestSpec)

/-- 'laws.FnFrameDeleteShareGroupOffsetsRequest', WHERE WHAT IT READS IS OF BULK AT MOST 1048576: true; the input reads as it did. -/
def fnFrameDeleteShareGroupOffsetsRequestUptoRow : OpenClaim := { program := "ytdpckciobjkobaagreatdoor", sum := "3432e0da0471b52cbc2eca5bdf0fbdd0a4e49185d115347a0441139302db62f2", func := "pub-mailsack/laws.FnFrameDeleteShareGroupOffsetsRequest", spec := "fnFrameDeleteShareGroupOffsetsRequest", unfollowed := true, recurses := true, named := ["encoding/binary.BigEndian", "pub-mailsack/pub/kmsg/inner/kbin.ErrNotEnoughData"], loops := true, apart := false, laid := [("pub-mailsack/pub/kmsg/inner/kbin.ErrNotEnoughData", laid_pub_mailsack_pub_kmsg_inner_kbin_ErrNotEnoughData)], narrowed := true }
def FnFrameDeleteShareGroupOffsetsRequestUptoSaid : Prop := fnFrameDeleteShareGroupOffsetsRequestUptoRow.holds Tryz.pinned (OpenSpec.upto fnFrameDeleteShareGroupOffsetsRequestSpec)

/-- 'laws.FnFrameDescribeShareGroupOffsetsRequest', WHERE WHAT IT READS IS OF BULK AT MOST 1048576: true; the input reads as it did. -/
def fnFrameDescribeShareGroupOffsetsRequestUptoRow : OpenClaim := { program := "ytdpckciobjkobaagreatdoor", sum := "3432e0da0471b52cbc2eca5bdf0fbdd0a4e49185d115347a0441139302db62f2", func := "pub-mailsack/laws.FnFrameDescribeShareGroupOffsetsRequest", spec := "fnFrameDescribeShareGroupOffsetsRequest", unfollowed := true, recurses := true, named := ["encoding/binary.BigEndian", "pub-mailsack/pub/kmsg/inner/kbin.ErrNotEnoughData"], loops := true, apart := false, laid := [("pub-mailsack/pub/kmsg/inner/kbin.ErrNotEnoughData", laid_pub_mailsack_pub_kmsg_inner_kbin_ErrNotEnoughData)], narrowed := true }
def FnFrameDescribeShareGroupOffsetsRequestUptoSaid : Prop := fnFrameDescribeShareGroupOffsetsRequestUptoRow.holds Tryz.pinned (OpenSpec.upto fnFrameDescribeShareGroupOffsetsRequestSpec)

end Rows
end Go.Proofs.YtdpckciobjkobaaGreatDoor
