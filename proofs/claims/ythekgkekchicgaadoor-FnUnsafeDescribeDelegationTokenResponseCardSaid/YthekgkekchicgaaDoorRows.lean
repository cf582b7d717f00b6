/-
  NARROWER THAN 'FOR EVERY INPUT', by the rows' own cells (each row's printed sentence says how): FnUnsafeOffsetCommitValue: laid · FnUnsafeOffsetCommitResponse: laid · FnUnsafeTxnOffsetCommitResponse: laid · FnUnsafeInitializeShareGroupStateResponse: laid · FnUnsafeOffsetForLeaderEpochResponse: laid · FnUnsafeDescribeConfigsRequest: laid · FnUnsafeAlterUserSCRAMCredentialsRequest: laid · FnUnsafeWriteTxnMarkersRequest: laid · FnUnsafeUpdateRaftVoterRequest: laid · FnUnsafeReadShareGroupStateResponse: laid · FnUnsafeAlterPartitionRequest: laid · FnUnsafeDescribeDelegationTokenResponse: laid · FnUnsafeFetchSnapshotResponse: laid.
  DERIVED. THE GIVEN ROWS OF THIS SEAT. 13 by the template 'for every input the law returns true; each argument reads behind the call as it read before'; 0 by the template 'total and deterministic' (their statements: YthekgkekchicgaaDoorTotals.lean).
  GIVEN WITH THE SEED: the statements are not yours to turn. If you find one false, say at which input.
  Laid BY PROGRAM, IN A SANDBOX (cutbox-rows.mjs): the forced cells as the released guide's own fill.sh prints them over the translation 53a53630a4974f9b… (all of the seat's roots in one cut). By AI agents, Wed Nov 11 2026. No macro, syntax, notation, axiom, sorry.
-/
import Derived.Test.YthekgkekchicgaaDoorChecked
import GoSem.Claim
import GoSem.ClaimJoined
import GoSem.ClaimMapViews
import Derived.JoinedTies
import Derived.KernelRfl
namespace Go.Proofs.YthekgkekchicgaaDoor
/- THE CELL 'sum', in the pinned program and in every row, IS THE sha256 OF THE DUMP (.gsa) THAT YthekgkekchicgaaDoorProg.lean LOADS. Nothing in Lean hashes anything: it is a label: what it is worth is what the hold of that sum in a sandbox is worth. -/
noncomputable def Tryd.pinned : Pinned := { name := "ythekgkekchicgaadoor", sum := "53a53630a4974f9bcaa81d36e14ed94cd6bff914ce3027a20d1306153f64ebc4", checked := Tryd.checked }
namespace Rows
def none {H : Type} : Left H := { results := [], args := [] }

/- WHAT THE LISTED PACKAGE-LEVEL VARIABLES READ AS WHEN THE CALL BEGINS. Each datum BY PROGRAM (the guide's laid-datum.mjs) off the statement by which the dump's own 'gosem.cut.vars' lays the variable. In a bare row this is a premise. The card (YthekgkekchicgaaDoorCards.lean) ties it to the program's text. -/
def laid_pub_mailsack_pub_kmsg_inner_kbin_ErrNotEnoughData {H : Type} : DataW H := .iface "*errors.errorString" (.ptr (.agg [.lit (.string [114, 101, 115, 112, 111, 110, 115, 101, 32, 100, 105, 100, 32, 110, 111, 116, 32, 99, 111, 110, 116, 97, 105, 110, 32, 101, 110, 111, 117, 103, 104, 32, 100, 97, 116, 97, 32, 116, 111, 32, 98, 101, 32, 118, 97, 108, 105, 100])]))

/-- 'laws.FnUnsafeOffsetCommitValue': WHATEVER THE INPUT: true; the input reads as it did. -/
def fnUnsafeOffsetCommitValueSpec : ChangeSpec := { name := "fnUnsafeOffsetCommitValue", fn := fun _ => fun
  | [d] => { results := [.lit (.bool true)], args := [d] }
  | _ => none }
def fnUnsafeOffsetCommitValueRow : OpenClaim := { program := "ythekgkekchicgaadoor", sum := "53a53630a4974f9bcaa81d36e14ed94cd6bff914ce3027a20d1306153f64ebc4", func := "pub-mailsack/laws.FnUnsafeOffsetCommitValue", spec := "fnUnsafeOffsetCommitValue", inPlace := ["internal/reflectlite.ValueOf", "internal/reflectlite.Swapper", "(internal/reflectlite.Value).Len"], unfollowed := true, recurses := true, named := ["encoding/binary.BigEndian", "pub-mailsack/pub/kmsg/inner/kbin.ErrNotEnoughData"], apart := false, laid := [("pub-mailsack/pub/kmsg/inner/kbin.ErrNotEnoughData", laid_pub_mailsack_pub_kmsg_inner_kbin_ErrNotEnoughData)] }
def FnUnsafeOffsetCommitValueSaid : Prop := fnUnsafeOffsetCommitValueRow.holds Tryd.pinned (OpenSpec.ofChange fnUnsafeOffsetCommitValueSpec)

/-- ITS FALSE NEIGHBOUR: 'it returns false'. Refute it at one input. -/
def fnUnsafeOffsetCommitValueWrong : ChangeSpec := { name := "fnUnsafeOffsetCommitValue", fn := fun _ => fun
  | [d] => { results := [.lit (.bool false)], args := [d] }
  | _ => none }
def FnUnsafeOffsetCommitValueWrongFalsely : Prop := fnUnsafeOffsetCommitValueRow.holds Tryd.pinned (OpenSpec.ofChange fnUnsafeOffsetCommitValueWrong)

/-- 'laws.FnUnsafeOffsetCommitResponse': WHATEVER THE INPUT: true; the input reads as it did. -/
def fnUnsafeOffsetCommitResponseSpec : ChangeSpec := { name := "fnUnsafeOffsetCommitResponse", fn := fun _ => fun
  | [d1, d2] => { results := [.lit (.bool true)], args := [d1, d2] }
  | _ => none }
def fnUnsafeOffsetCommitResponseRow : OpenClaim := { program := "ythekgkekchicgaadoor", sum := "53a53630a4974f9bcaa81d36e14ed94cd6bff914ce3027a20d1306153f64ebc4", func := "pub-mailsack/laws.FnUnsafeOffsetCommitResponse", spec := "fnUnsafeOffsetCommitResponse", inPlace := ["internal/reflectlite.ValueOf", "internal/reflectlite.Swapper", "(internal/reflectlite.Value).Len"], unfollowed := true, recurses := true, named := ["encoding/binary.BigEndian", "pub-mailsack/pub/kmsg/inner/kbin.ErrNotEnoughData"], apart := false, laid := [("pub-mailsack/pub/kmsg/inner/kbin.ErrNotEnoughData", laid_pub_mailsack_pub_kmsg_inner_kbin_ErrNotEnoughData)] }
def FnUnsafeOffsetCommitResponseSaid : Prop := fnUnsafeOffsetCommitResponseRow.holds Tryd.pinned (OpenSpec.ofChange fnUnsafeOffsetCommitResponseSpec)

/-- ITS FALSE NEIGHBOUR: 'it returns false'. Refute it at one input. -/
def fnUnsafeOffsetCommitResponseWrong : ChangeSpec := { name := "fnUnsafeOffsetCommitResponse", fn := fun _ => fun
  | [d1, d2] => { results := [.lit (.bool false)], args := [d1, d2] }
  | _ => none }
def FnUnsafeOffsetCommitResponseWrongFalsely : Prop := fnUnsafeOffsetCommitResponseRow.holds Tryd.pinned (OpenSpec.ofChange fnUnsafeOffsetCommitResponseWrong)

/-- 'laws.FnUnsafeTxnOffsetCommitResponse': WHATEVER THE INPUT: true; the input reads as it did. -/
def fnUnsafeTxnOffsetCommitResponseSpec : ChangeSpec := { name := "fnUnsafeTxnOffsetCommitResponse", fn := fun _ => fun
  | [d1, d2] => { results := [.lit (.bool true)], args := [d1, d2] }
  | _ => none }
def fnUnsafeTxnOffsetCommitResponseRow : OpenClaim := { program := "ythekgkekchicgaadoor", sum := "53a53630a4974f9bcaa81d36e14ed94cd6bff914ce3027a20d1306153f64ebc4", func := "pub-mailsack/laws.FnUnsafeTxnOffsetCommitResponse", spec := "fnUnsafeTxnOffsetCommitResponse", inPlace := ["internal/reflectlite.ValueOf", "internal/reflectlite.Swapper", "(internal/reflectlite.Value).Len"], unfollowed := true, recurses := true, named := ["encoding/binary.BigEndian", "pub-mailsack/pub/kmsg/inner/kbin.ErrNotEnoughData"], apart := false, laid := [("pub-mailsack/pub/kmsg/inner/kbin.ErrNotEnoughData", laid_pub_mailsack_pub_kmsg_inner_kbin_ErrNotEnoughData)] }
def FnUnsafeTxnOffsetCommitResponseSaid : Prop := fnUnsafeTxnOffsetCommitResponseRow.holds Tryd.pinned (OpenSpec.ofChange fnUnsafeTxnOffsetCommitResponseSpec)

/-- ITS FALSE NEIGHBOUR: 'it returns false'. Refute it at one input. -/
def fnUnsafeTxnOffsetCommitResponseWrong : ChangeSpec := { name := "fnUnsafeTxnOffsetCommitResponse", fn := fun _ => fun
  | [d1, d2] => { results := [.lit (.bool false)], args := [d1, d2] }
  | _ => none }
def FnUnsafeTxnOffsetCommitResponseWrongFalsely : Prop := fnUnsafeTxnOffsetCommitResponseRow.holds Tryd.pinned (OpenSpec.ofChange fnUnsafeTxnOffsetCommitResponseWrong)

/-- 'laws.FnUnsafeInitializeShareGroupStateResponse': WHATEVER THE INPUT: true; the input reads as it did. -/
def fnUnsafeInitializeShareGroupStateResponseSpec : ChangeSpec := { name := "fnUnsafeInitializeShareGroupStateResponse", fn := fun _ => fun
  | [d1, d2] => { results := [.lit (.bool true)], args := [d1, d2] }
  | _ => none }
def fnUnsafeInitializeShareGroupStateResponseRow : OpenClaim := { program := "ythekgkekchicgaadoor", sum := "53a53630a4974f9bcaa81d36e14ed94cd6bff914ce3027a20d1306153f64ebc4", func := "pub-mailsack/laws.FnUnsafeInitializeShareGroupStateResponse", spec := "fnUnsafeInitializeShareGroupStateResponse", inPlace := ["internal/reflectlite.ValueOf", "internal/reflectlite.Swapper", "(internal/reflectlite.Value).Len"], unfollowed := true, recurses := true, named := ["encoding/binary.BigEndian", "pub-mailsack/pub/kmsg/inner/kbin.ErrNotEnoughData"], apart := false, laid := [("pub-mailsack/pub/kmsg/inner/kbin.ErrNotEnoughData", laid_pub_mailsack_pub_kmsg_inner_kbin_ErrNotEnoughData)] }
def FnUnsafeInitializeShareGroupStateResponseSaid : Prop := fnUnsafeInitializeShareGroupStateResponseRow.holds Tryd.pinned (OpenSpec.ofChange fnUnsafeInitializeShareGroupStateResponseSpec)

/-- ITS FALSE NEIGHBOUR: 'it returns false'. Refute it at one input. -/
def fnUnsafeInitializeShareGroupStateResponseWrong : ChangeSpec := { name := "fnUnsafeInitializeShareGroupStateResponse", fn := fun _ => fun
  | [d1, d2] => { results := [.lit (.bool false)], args := [d1, d2] }
  | _ => none }
def FnUnsafeInitializeShareGroupStateResponseWrongFalsely : Prop := fnUnsafeInitializeShareGroupStateResponseRow.holds Tryd.pinned (OpenSpec.ofChange fnUnsafeInitializeShareGroupStateResponseWrong)

/-- 'laws.FnUnsafeOffsetForLeaderEpochResponse': WHATEVER THE INPUT: true; the input reads as it did. -/
def fnUnsafeOffsetForLeaderEpochResponseSpec : ChangeSpec := { name := "fnUnsafeOffsetForLeaderEpochResponse", fn := fun _ => fun
  | [d1, d2] => { results := [.lit (.bool true)], args := [d1, d2] }
  | _ => none }
def fnUnsafeOffsetForLeaderEpochResponseRow : OpenClaim := { program := "ythekgkekchicgaadoor", sum := "53a53630a4974f9bcaa81d36e14ed94cd6bff914ce3027a20d1306153f64ebc4", func := "pub-mailsack/laws.FnUnsafeOffsetForLeaderEpochResponse", spec := "fnUnsafeOffsetForLeaderEpochResponse", inPlace := ["internal/reflectlite.ValueOf", "internal/reflectlite.Swapper", "(internal/reflectlite.Value).Len"], unfollowed := true, recurses := true, named := ["encoding/binary.BigEndian", "pub-mailsack/pub/kmsg/inner/kbin.ErrNotEnoughData"], apart := false, laid := [("pub-mailsack/pub/kmsg/inner/kbin.ErrNotEnoughData", laid_pub_mailsack_pub_kmsg_inner_kbin_ErrNotEnoughData)] }
def FnUnsafeOffsetForLeaderEpochResponseSaid : Prop := fnUnsafeOffsetForLeaderEpochResponseRow.holds Tryd.pinned (OpenSpec.ofChange fnUnsafeOffsetForLeaderEpochResponseSpec)

/-- ITS FALSE NEIGHBOUR: 'it returns false'. Refute it at one input. -/
def fnUnsafeOffsetForLeaderEpochResponseWrong : ChangeSpec := { name := "fnUnsafeOffsetForLeaderEpochResponse", fn := fun _ => fun
  | [d1, d2] => { results := [.lit (.bool false)], args := [d1, d2] }
  | _ => none }
def FnUnsafeOffsetForLeaderEpochResponseWrongFalsely : Prop := fnUnsafeOffsetForLeaderEpochResponseRow.holds Tryd.pinned (OpenSpec.ofChange fnUnsafeOffsetForLeaderEpochResponseWrong)

/-- 'laws.FnUnsafeDescribeConfigsRequest': WHATEVER THE INPUT: true; the input reads as it did. -/
def fnUnsafeDescribeConfigsRequestSpec : ChangeSpec := { name := "fnUnsafeDescribeConfigsRequest", fn := fun _ => fun
  | [d1, d2] => { results := [.lit (.bool true)], args := [d1, d2] }
  | _ => none }
def fnUnsafeDescribeConfigsRequestRow : OpenClaim := { program := "ythekgkekchicgaadoor", sum := "53a53630a4974f9bcaa81d36e14ed94cd6bff914ce3027a20d1306153f64ebc4", func := "pub-mailsack/laws.FnUnsafeDescribeConfigsRequest", spec := "fnUnsafeDescribeConfigsRequest", inPlace := ["internal/reflectlite.ValueOf", "internal/reflectlite.Swapper", "(internal/reflectlite.Value).Len"], unfollowed := true, recurses := true, named := ["encoding/binary.BigEndian", "pub-mailsack/pub/kmsg/inner/kbin.ErrNotEnoughData"], apart := false, laid := [("pub-mailsack/pub/kmsg/inner/kbin.ErrNotEnoughData", laid_pub_mailsack_pub_kmsg_inner_kbin_ErrNotEnoughData)] }
def FnUnsafeDescribeConfigsRequestSaid : Prop := fnUnsafeDescribeConfigsRequestRow.holds Tryd.pinned (OpenSpec.ofChange fnUnsafeDescribeConfigsRequestSpec)

/-- ITS FALSE NEIGHBOUR: 'it returns false'. Refute it at one input. -/
def fnUnsafeDescribeConfigsRequestWrong : ChangeSpec := { name := "fnUnsafeDescribeConfigsRequest", fn := fun _ => fun
  | [d1, d2] => { results := [.lit (.bool false)], args := [d1, d2] }
  | _ => none }
def FnUnsafeDescribeConfigsRequestWrongFalsely : Prop := fnUnsafeDescribeConfigsRequestRow.holds Tryd.pinned (OpenSpec.ofChange fnUnsafeDescribeConfigsRequestWrong)

/-- 'laws.FnUnsafeAlterUserSCRAMCredentialsRequest': WHATEVER THE INPUT: true; the input reads as it did. -/
def fnUnsafeAlterUserSCRAMCredentialsRequestSpec : ChangeSpec := { name := "fnUnsafeAlterUserSCRAMCredentialsRequest", fn := fun _ => fun
  | [d1, d2] => { results := [.lit (.bool true)], args := [d1, d2] }
  | _ => none }
def fnUnsafeAlterUserSCRAMCredentialsRequestRow : OpenClaim := { program := "ythekgkekchicgaadoor", sum := "53a53630a4974f9bcaa81d36e14ed94cd6bff914ce3027a20d1306153f64ebc4", func := "pub-mailsack/laws.FnUnsafeAlterUserSCRAMCredentialsRequest", spec := "fnUnsafeAlterUserSCRAMCredentialsRequest", inPlace := ["internal/reflectlite.ValueOf", "internal/reflectlite.Swapper", "(internal/reflectlite.Value).Len"], unfollowed := true, recurses := true, named := ["encoding/binary.BigEndian", "pub-mailsack/pub/kmsg/inner/kbin.ErrNotEnoughData"], apart := false, laid := [("pub-mailsack/pub/kmsg/inner/kbin.ErrNotEnoughData", laid_pub_mailsack_pub_kmsg_inner_kbin_ErrNotEnoughData)] }
def FnUnsafeAlterUserSCRAMCredentialsRequestSaid : Prop := fnUnsafeAlterUserSCRAMCredentialsRequestRow.holds Tryd.pinned (OpenSpec.ofChange fnUnsafeAlterUserSCRAMCredentialsRequestSpec)

/-- ITS FALSE NEIGHBOUR: 'it returns false'. Refute it at one input. -/
def fnUnsafeAlterUserSCRAMCredentialsRequestWrong : ChangeSpec := { name := "fnUnsafeAlterUserSCRAMCredentialsRequest", fn := fun _ => fun
  | [d1, d2] => { results := [.lit (.bool false)], args := [d1, d2] }
  | _ => none }
def FnUnsafeAlterUserSCRAMCredentialsRequestWrongFalsely : Prop := fnUnsafeAlterUserSCRAMCredentialsRequestRow.holds Tryd.pinned (OpenSpec.ofChange fnUnsafeAlterUserSCRAMCredentialsRequestWrong)

/-- 'laws.FnUnsafeWriteTxnMarkersRequest': WHATEVER THE INPUT: true; the input reads as it did. -/
def fnUnsafeWriteTxnMarkersRequestSpec : ChangeSpec := { name := "fnUnsafeWriteTxnMarkersRequest", fn := fun _ => fun
  | [d1, d2] => { results := [.lit (.bool true)], args := [d1, d2] }
  | _ => none }
def fnUnsafeWriteTxnMarkersRequestRow : OpenClaim := { program := "ythekgkekchicgaadoor", sum := "53a53630a4974f9bcaa81d36e14ed94cd6bff914ce3027a20d1306153f64ebc4", func := "pub-mailsack/laws.FnUnsafeWriteTxnMarkersRequest", spec := "fnUnsafeWriteTxnMarkersRequest", inPlace := ["internal/reflectlite.ValueOf", "internal/reflectlite.Swapper", "(internal/reflectlite.Value).Len"], unfollowed := true, recurses := true, named := ["encoding/binary.BigEndian", "pub-mailsack/pub/kmsg/inner/kbin.ErrNotEnoughData"], apart := false, laid := [("pub-mailsack/pub/kmsg/inner/kbin.ErrNotEnoughData", laid_pub_mailsack_pub_kmsg_inner_kbin_ErrNotEnoughData)] }
def FnUnsafeWriteTxnMarkersRequestSaid : Prop := fnUnsafeWriteTxnMarkersRequestRow.holds Tryd.pinned (OpenSpec.ofChange fnUnsafeWriteTxnMarkersRequestSpec)

/-- ITS FALSE NEIGHBOUR: 'it returns false'. Refute it at one input. -/
def fnUnsafeWriteTxnMarkersRequestWrong : ChangeSpec := { name := "fnUnsafeWriteTxnMarkersRequest", fn := fun _ => fun
  | [d1, d2] => { results := [.lit (.bool false)], args := [d1, d2] }
  | _ => none }
def FnUnsafeWriteTxnMarkersRequestWrongFalsely : Prop := fnUnsafeWriteTxnMarkersRequestRow.holds Tryd.pinned (OpenSpec.ofChange fnUnsafeWriteTxnMarkersRequestWrong)

/-- 'laws.FnUnsafeUpdateRaftVoterRequest': WHATEVER THE INPUT: true; the input reads as it did. -/
def fnUnsafeUpdateRaftVoterRequestSpec : ChangeSpec := { name := "fnUnsafeUpdateRaftVoterRequest", fn := fun _ => fun
  | [d1, d2] => { results := [.lit (.bool true)], args := [d1, d2] }
  | _ => none }
def fnUnsafeUpdateRaftVoterRequestRow : OpenClaim := { program := "ythekgkekchicgaadoor", sum := "53a53630a4974f9bcaa81d36e14ed94cd6bff914ce3027a20d1306153f64ebc4", func := "pub-mailsack/laws.FnUnsafeUpdateRaftVoterRequest", spec := "fnUnsafeUpdateRaftVoterRequest", inPlace := ["internal/reflectlite.ValueOf", "internal/reflectlite.Swapper", "(internal/reflectlite.Value).Len"], unfollowed := true, recurses := true, named := ["encoding/binary.BigEndian", "pub-mailsack/pub/kmsg/inner/kbin.ErrNotEnoughData"], apart := false, laid := [("pub-mailsack/pub/kmsg/inner/kbin.ErrNotEnoughData", laid_pub_mailsack_pub_kmsg_inner_kbin_ErrNotEnoughData)] }
def FnUnsafeUpdateRaftVoterRequestSaid : Prop := fnUnsafeUpdateRaftVoterRequestRow.holds Tryd.pinned (OpenSpec.ofChange fnUnsafeUpdateRaftVoterRequestSpec)

/-- ITS FALSE NEIGHBOUR: 'it returns false'. Refute it at one input. -/
def fnUnsafeUpdateRaftVoterRequestWrong : ChangeSpec := { name := "fnUnsafeUpdateRaftVoterRequest", fn := fun _ => fun
  | [d1, d2] => { results := [.lit (.bool false)], args := [d1, d2] }
  | _ => none }
def FnUnsafeUpdateRaftVoterRequestWrongFalsely : Prop := fnUnsafeUpdateRaftVoterRequestRow.holds Tryd.pinned (OpenSpec.ofChange fnUnsafeUpdateRaftVoterRequestWrong)

/-- 'laws.FnUnsafeReadShareGroupStateResponse': WHATEVER THE INPUT: true; the input reads as it did. -/
def fnUnsafeReadShareGroupStateResponseSpec : ChangeSpec := { name := "fnUnsafeReadShareGroupStateResponse", fn := fun _ => fun
  | [d1, d2] => { results := [.lit (.bool true)], args := [d1, d2] }
  | _ => none }
def fnUnsafeReadShareGroupStateResponseRow : OpenClaim := { program := "ythekgkekchicgaadoor", sum := "53a53630a4974f9bcaa81d36e14ed94cd6bff914ce3027a20d1306153f64ebc4", func := "pub-mailsack/laws.FnUnsafeReadShareGroupStateResponse", spec := "fnUnsafeReadShareGroupStateResponse", inPlace := ["internal/reflectlite.ValueOf", "internal/reflectlite.Swapper", "(internal/reflectlite.Value).Len"], unfollowed := true, recurses := true, named := ["encoding/binary.BigEndian", "pub-mailsack/pub/kmsg/inner/kbin.ErrNotEnoughData"], apart := false, laid := [("pub-mailsack/pub/kmsg/inner/kbin.ErrNotEnoughData", laid_pub_mailsack_pub_kmsg_inner_kbin_ErrNotEnoughData)] }
def FnUnsafeReadShareGroupStateResponseSaid : Prop := fnUnsafeReadShareGroupStateResponseRow.holds Tryd.pinned (OpenSpec.ofChange fnUnsafeReadShareGroupStateResponseSpec)

/-- ITS FALSE NEIGHBOUR: 'it returns false'. Refute it at one input. -/
def fnUnsafeReadShareGroupStateResponseWrong : ChangeSpec := { name := "fnUnsafeReadShareGroupStateResponse", fn := fun _ => fun
  | [d1, d2] => { results := [.lit (.bool false)], args := [d1, d2] }
  | _ => none }
def FnUnsafeReadShareGroupStateResponseWrongFalsely : Prop := fnUnsafeReadShareGroupStateResponseRow.holds Tryd.pinned (OpenSpec.ofChange fnUnsafeReadShareGroupStateResponseWrong)

/-- 'laws.FnUnsafeAlterPartitionRequest': WHATEVER THE INPUT: true; the input reads as it did. -/
def fnUnsafeAlterPartitionRequestSpec : ChangeSpec := { name := "fnUnsafeAlterPartitionRequest", fn := fun _ => fun
  | [d1, d2] => { results := [.lit (.bool true)], args := [d1, d2] }
  | _ => none }
def fnUnsafeAlterPartitionRequestRow : OpenClaim := { program := "ythekgkekchicgaadoor", sum := "53a53630a4974f9bcaa81d36e14ed94cd6bff914ce3027a20d1306153f64ebc4", func := "pub-mailsack/laws.FnUnsafeAlterPartitionRequest", spec := "fnUnsafeAlterPartitionRequest", inPlace := ["internal/reflectlite.ValueOf", "internal/reflectlite.Swapper", "(internal/reflectlite.Value).Len"], unfollowed := true, recurses := true, named := ["encoding/binary.BigEndian", "pub-mailsack/pub/kmsg/inner/kbin.ErrNotEnoughData"], apart := false, laid := [("pub-mailsack/pub/kmsg/inner/kbin.ErrNotEnoughData", laid_pub_mailsack_pub_kmsg_inner_kbin_ErrNotEnoughData)] }
def FnUnsafeAlterPartitionRequestSaid : Prop := fnUnsafeAlterPartitionRequestRow.holds Tryd.pinned (OpenSpec.ofChange fnUnsafeAlterPartitionRequestSpec)

/-- ITS FALSE NEIGHBOUR: 'it returns false'. Refute it at one input. -/
def fnUnsafeAlterPartitionRequestWrong : ChangeSpec := { name := "fnUnsafeAlterPartitionRequest", fn := fun _ => fun
  | [d1, d2] => { results := [.lit (.bool false)], args := [d1, d2] }
  | _ => none }
def FnUnsafeAlterPartitionRequestWrongFalsely : Prop := fnUnsafeAlterPartitionRequestRow.holds Tryd.pinned (OpenSpec.ofChange fnUnsafeAlterPartitionRequestWrong)

/-- 'laws.FnUnsafeDescribeDelegationTokenResponse': WHATEVER THE INPUT: true; the input reads as it did. -/
def fnUnsafeDescribeDelegationTokenResponseSpec : ChangeSpec := { name := "fnUnsafeDescribeDelegationTokenResponse", fn := fun _ => fun
  | [d1, d2] => { results := [.lit (.bool true)], args := [d1, d2] }
  | _ => none }
def fnUnsafeDescribeDelegationTokenResponseRow : OpenClaim := { program := "ythekgkekchicgaadoor", sum := "53a53630a4974f9bcaa81d36e14ed94cd6bff914ce3027a20d1306153f64ebc4", func := "pub-mailsack/laws.FnUnsafeDescribeDelegationTokenResponse", spec := "fnUnsafeDescribeDelegationTokenResponse", inPlace := ["internal/reflectlite.ValueOf", "internal/reflectlite.Swapper", "(internal/reflectlite.Value).Len"], unfollowed := true, recurses := true, named := ["encoding/binary.BigEndian", "pub-mailsack/pub/kmsg/inner/kbin.ErrNotEnoughData"], apart := false, laid := [("pub-mailsack/pub/kmsg/inner/kbin.ErrNotEnoughData", laid_pub_mailsack_pub_kmsg_inner_kbin_ErrNotEnoughData)] }
def FnUnsafeDescribeDelegationTokenResponseSaid : Prop := fnUnsafeDescribeDelegationTokenResponseRow.holds Tryd.pinned (OpenSpec.ofChange fnUnsafeDescribeDelegationTokenResponseSpec)

/-- ITS FALSE NEIGHBOUR: 'it returns false'. Refute it at one input. -/
def fnUnsafeDescribeDelegationTokenResponseWrong : ChangeSpec := { name := "fnUnsafeDescribeDelegationTokenResponse", fn := fun _ => fun
  | [d1, d2] => { results := [.lit (.bool false)], args := [d1, d2] }
  | _ => none }
def FnUnsafeDescribeDelegationTokenResponseWrongFalsely : Prop := fnUnsafeDescribeDelegationTokenResponseRow.holds Tryd.pinned (OpenSpec.ofChange fnUnsafeDescribeDelegationTokenResponseWrong)

/-- 'laws.FnUnsafeFetchSnapshotResponse': WHATEVER THE INPUT: true; the input reads as it did. -/
def fnUnsafeFetchSnapshotResponseSpec : ChangeSpec := { name := "fnUnsafeFetchSnapshotResponse", fn := fun _ => fun
  | [d1, d2] => { results := [.lit (.bool true)], args := [d1, d2] }
  | _ => none }
def fnUnsafeFetchSnapshotResponseRow : OpenClaim := { program := "ythekgkekchicgaadoor", sum := "53a53630a4974f9bcaa81d36e14ed94cd6bff914ce3027a20d1306153f64ebc4", func := "pub-mailsack/laws.FnUnsafeFetchSnapshotResponse", spec := "fnUnsafeFetchSnapshotResponse", inPlace := ["internal/reflectlite.ValueOf", "internal/reflectlite.Swapper", "(internal/reflectlite.Value).Len"], unfollowed := true, recurses := true, named := ["encoding/binary.BigEndian", "pub-mailsack/pub/kmsg/inner/kbin.ErrNotEnoughData"], apart := false, laid := [("pub-mailsack/pub/kmsg/inner/kbin.ErrNotEnoughData", laid_pub_mailsack_pub_kmsg_inner_kbin_ErrNotEnoughData)] }
def FnUnsafeFetchSnapshotResponseSaid : Prop := fnUnsafeFetchSnapshotResponseRow.holds Tryd.pinned (OpenSpec.ofChange fnUnsafeFetchSnapshotResponseSpec)

/-- ITS FALSE NEIGHBOUR: 'it returns false'. Refute it at one input. -/
def fnUnsafeFetchSnapshotResponseWrong : ChangeSpec := { name := "fnUnsafeFetchSnapshotResponse", fn := fun _ => fun
  | [d1, d2] => { results := [.lit (.bool false)], args := [d1, d2] }
  | _ => none }
def FnUnsafeFetchSnapshotResponseWrongFalsely : Prop := fnUnsafeFetchSnapshotResponseRow.holds Tryd.pinned (OpenSpec.ofChange fnUnsafeFetchSnapshotResponseWrong)

/- THE SECOND FORM. 'bulk': how many values and letters a reading holds, each counted each time it is reached (what is shared counts as often as it is met; a slice's spare places count too). A statement '..UptoSaid' is the law's where the arguments, and the package variables that the reading takes, are together of bulk at most 1048576: NARROWER than '..Said'. Prove '..Said' where nothing that the law and all that it calls make is longer than what came in: it says more and counts as full. Else prove '..UptoSaid'. A law counts once. -/
mutual
def uptoBulk {H : Type} : DataW H → Nat
  | .lit (.string bytes) => bytes.length + 1
  | .lit _ => 1
  | .nil => 1
  | .ptr d => uptoBulk d + 1
  | .slice elems spare => uptoBulkAll elems + uptoBulkAll spare + 1
  | .agg parts => uptoBulkAll parts + 1
  | .iface _ d => uptoBulk d + 1
  | .map entries => uptoBulkEntries entries + 1
  | .held _ => 1
def uptoBulkAll {H : Type} : List (DataW H) → Nat
  | [] => 0
  | d :: r => uptoBulk d + uptoBulkAll r
def uptoBulkEntries {H : Type} : List (Lit × DataW H) → Nat
  | [] => 0
  | x :: r => uptoBulkEntry x + uptoBulkEntries r
def uptoBulkEntry {H : Type} : Lit × DataW H → Nat
  | (.string bytes, d) => bytes.length + uptoBulk d + 1
  | (_, d) => uptoBulk d + 1
 end
def uptoSmall : (H : Type) → List (DataW H) → Bool := fun _ ds => decide (uptoBulkAll ds ≤ 1048576)
def OpenSpec.upto (s : _root_.Go.ChangeSpec) : _root_.Go.OpenSpec := { _root_.Go.OpenSpec.ofChange s with cond := some uptoSmall }

/-- 'laws.FnUnsafeOffsetCommitValue', WHERE WHAT IT READS IS OF BULK AT MOST 1048576: true; the input reads as it did. -/
def fnUnsafeOffsetCommitValueUptoRow : OpenClaim := { program := "ythekgkekchicgaadoor", sum := "53a53630a4974f9bcaa81d36e14ed94cd6bff914ce3027a20d1306153f64ebc4", func := "pub-mailsack/laws.FnUnsafeOffsetCommitValue", spec := "fnUnsafeOffsetCommitValue", inPlace := ["internal/reflectlite.ValueOf", "internal/reflectlite.Swapper", "(internal/reflectlite.Value).Len"], unfollowed := true, recurses := true, named := ["encoding/binary.BigEndian", "pub-mailsack/pub/kmsg/inner/kbin.ErrNotEnoughData"], apart := false, laid := [("pub-mailsack/pub/kmsg/inner/kbin.ErrNotEnoughData", laid_pub_mailsack_pub_kmsg_inner_kbin_ErrNotEnoughData)], narrowed := true }
def FnUnsafeOffsetCommitValueUptoSaid : Prop := fnUnsafeOffsetCommitValueUptoRow.holds Tryd.pinned (OpenSpec.upto fnUnsafeOffsetCommitValueSpec)

/-- 'laws.FnUnsafeOffsetCommitResponse', WHERE WHAT IT READS IS OF BULK AT MOST 1048576: true; the input reads as it did. -/
def fnUnsafeOffsetCommitResponseUptoRow : OpenClaim := { program := "ythekgkekchicgaadoor", sum := "53a53630a4974f9bcaa81d36e14ed94cd6bff914ce3027a20d1306153f64ebc4", func := "pub-mailsack/laws.FnUnsafeOffsetCommitResponse", spec := "fnUnsafeOffsetCommitResponse", inPlace := ["internal/reflectlite.ValueOf", "internal/reflectlite.Swapper", "(internal/reflectlite.Value).Len"], unfollowed := true, recurses := true, named := ["encoding/binary.BigEndian", "pub-mailsack/pub/kmsg/inner/kbin.ErrNotEnoughData"], apart := false, laid := [("pub-mailsack/pub/kmsg/inner/kbin.ErrNotEnoughData", laid_pub_mailsack_pub_kmsg_inner_kbin_ErrNotEnoughData)], narrowed := true }
def FnUnsafeOffsetCommitResponseUptoSaid : Prop := fnUnsafeOffsetCommitResponseUptoRow.holds Tryd.pinned (OpenSpec.upto fnUnsafeOffsetCommitResponseSpec)

/-- 'laws.FnUnsafeTxnOffsetCommitResponse', WHERE WHAT IT READS IS OF BULK AT MOST 1048576: true; the input reads as it did. -/
def fnUnsafeTxnOffsetCommitResponseUptoRow : OpenClaim := { program := "ythekgkekchicgaadoor", sum := "53a53630a4974f9bcaa81d36e14ed94cd6bff914ce3027a20d1306153f64ebc4", func := "pub-mailsack/laws.FnUnsafeTxnOffsetCommitResponse", spec := "fnUnsafeTxnOffsetCommitResponse", inPlace := ["internal/reflectlite.ValueOf", "internal/reflectlite.Swapper", "(internal/reflectlite.Value).Len"], unfollowed := true, recurses := true, named := ["encoding/binary.BigEndian", "pub-mailsack/pub/kmsg/inner/kbin.ErrNotEnoughData"], apart := false, laid := [("pub-mailsack/pub/kmsg/inner/kbin.ErrNotEnoughData", laid_pub_mailsack_pub_kmsg_inner_kbin_ErrNotEnoughData)], narrowed := true }
def FnUnsafeTxnOffsetCommitResponseUptoSaid : Prop := fnUnsafeTxnOffsetCommitResponseUptoRow.holds Tryd.pinned (OpenSpec.upto fnUnsafeTxnOffsetCommitResponseSpec)

/-- 'laws.FnUnsafeInitializeShareGroupStateResponse', WHERE WHAT IT READS IS OF BULK AT MOST 1048576: true; the input reads as it did. -/
def fnUnsafeInitializeShareGroupStateResponseUptoRow : OpenClaim := { program := "ythekgkekchicgaadoor", sum := "53a53630a4974f9bcaa81d36e14ed94cd6bff914ce3027a20d1306153f64ebc4", func := "pub-mailsack/laws.FnUnsafeInitializeShareGroupStateResponse", spec := "fnUnsafeInitializeShareGroupStateResponse", inPlace := ["internal/reflectlite.ValueOf", "internal/reflectlite.Swapper", "(internal/reflectlite.Value).Len"], unfollowed := true, recurses := true, named := ["encoding/binary.BigEndian", "pub-mailsack/pub/kmsg/inner/kbin.ErrNotEnoughData"], apart := false, laid := [("pub-mailsack/pub/kmsg/inner/kbin.ErrNotEnoughData", laid_pub_mailsack_pub_kmsg_inner_kbin_ErrNotEnoughData)], narrowed := true }
def FnUnsafeInitializeShareGroupStateResponseUptoSaid : Prop := fnUnsafeInitializeShareGroupStateResponseUptoRow.holds Tryd.pinned (OpenSpec.upto fnUnsafeInitializeShareGroupStateResponseSpec)

/-- 'laws.FnUnsafeOffsetForLeaderEpochResponse', WHERE WHAT IT READS IS OF BULK AT MOST 1048576: true; the input reads as it did. -/
def fnUnsafeOffsetForLeaderEpochResponseUptoRow : OpenClaim := { program := "ythekgkekchicgaadoor", sum := "53a53630a4974f9bcaa81d36e14ed94cd6bff914ce3027a20d1306153f64ebc4", func := "pub-mailsack/laws.FnUnsafeOffsetForLeaderEpochResponse", spec := "fnUnsafeOffsetForLeaderEpochResponse", inPlace := ["internal/reflectlite.ValueOf", "internal/reflectlite.Swapper", "(internal/reflectlite.Value).Len"], unfollowed := true, recurses := true, named := ["encoding/binary.BigEndian", "pub-mailsack/pub/kmsg/inner/kbin.ErrNotEnoughData"], apart := false, laid := [("pub-mailsack/pub/kmsg/inner/kbin.ErrNotEnoughData", laid_pub_mailsack_pub_kmsg_inner_kbin_ErrNotEnoughData)], narrowed := true }
def FnUnsafeOffsetForLeaderEpochResponseUptoSaid : Prop := fnUnsafeOffsetForLeaderEpochResponseUptoRow.holds Tryd.pinned (OpenSpec.upto fnUnsafeOffsetForLeaderEpochResponseSpec)

/-- 'laws.FnUnsafeDescribeConfigsRequest', WHERE WHAT IT READS IS OF BULK AT MOST 1048576: true; the input reads as it did. -/
def fnUnsafeDescribeConfigsRequestUptoRow : OpenClaim := { program := "ythekgkekchicgaadoor", sum := "53a53630a4974f9bcaa81d36e14ed94cd6bff914ce3027a20d1306153f64ebc4", func := "pub-mailsack/laws.FnUnsafeDescribeConfigsRequest", spec := "fnUnsafeDescribeConfigsRequest", inPlace := ["internal/reflectlite.ValueOf", "internal/reflectlite.Swapper", "(internal/reflectlite.Value).Len"], unfollowed := true, recurses := true, named := ["encoding/binary.BigEndian", "pub-mailsack/pub/kmsg/inner/kbin.ErrNotEnoughData"], apart := false, laid := [("pub-mailsack/pub/kmsg/inner/kbin.ErrNotEnoughData", laid_pub_mailsack_pub_kmsg_inner_kbin_ErrNotEnoughData)], narrowed := true }
def FnUnsafeDescribeConfigsRequestUptoSaid : Prop := fnUnsafeDescribeConfigsRequestUptoRow.holds Tryd.pinned (OpenSpec.upto fnUnsafeDescribeConfigsRequestSpec)

/-- 'laws.FnUnsafeAlterUserSCRAMCredentialsRequest', WHERE WHAT IT READS IS OF BULK AT MOST 1048576: true; the input reads as it did. -/
def fnUnsafeAlterUserSCRAMCredentialsRequestUptoRow : OpenClaim := { program := "ythekgkekchicgaadoor", sum := "53a53630a4974f9bcaa81d36e14ed94cd6bff914ce3027a20d1306153f64ebc4", func := "pub-mailsack/laws.FnUnsafeAlterUserSCRAMCredentialsRequest", spec := "fnUnsafeAlterUserSCRAMCredentialsRequest", inPlace := ["internal/reflectlite.ValueOf", "internal/reflectlite.Swapper", "(internal/reflectlite.Value).Len"], unfollowed := true, recurses := true, named := ["encoding/binary.BigEndian", "pub-mailsack/pub/kmsg/inner/kbin.ErrNotEnoughData"], apart := false, laid := [("pub-mailsack/pub/kmsg/inner/kbin.ErrNotEnoughData", laid_pub_mailsack_pub_kmsg_inner_kbin_ErrNotEnoughData)], narrowed := true }
def FnUnsafeAlterUserSCRAMCredentialsRequestUptoSaid : Prop := fnUnsafeAlterUserSCRAMCredentialsRequestUptoRow.holds Tryd.pinned (OpenSpec.upto fnUnsafeAlterUserSCRAMCredentialsRequestSpec)

/-- 'laws.FnUnsafeWriteTxnMarkersRequest', WHERE WHAT IT READS IS OF BULK AT MOST 1048576: true; the input reads as it did. -/
def fnUnsafeWriteTxnMarkersRequestUptoRow : OpenClaim := { program := "ythekgkekchicgaadoor", sum := "53a53630a4974f9bcaa81d36e14ed94cd6bff914ce3027a20d1306153f64ebc4", func := "pub-mailsack/laws.FnUnsafeWriteTxnMarkersRequest", spec := "fnUnsafeWriteTxnMarkersRequest", inPlace := ["internal/reflectlite.ValueOf", "internal/reflectlite.Swapper", "(internal/reflectlite.Value).Len"], unfollowed := true, recurses := true, named := ["encoding/binary.BigEndian", "pub-mailsack/pub/kmsg/inner/kbin.ErrNotEnoughData"], apart := false, laid := [("pub-mailsack/pub/kmsg/inner/kbin.ErrNotEnoughData", laid_pub_mailsack_pub_kmsg_inner_kbin_ErrNotEnoughData)], narrowed := true }
def FnUnsafeWriteTxnMarkersRequestUptoSaid : Prop := fnUnsafeWriteTxnMarkersRequestUptoRow.holds Tryd.pinned (OpenSpec.upto fnUnsafeWriteTxnMarkersRequestSpec)

/-- 'laws.FnUnsafeUpdateRaftVoterRequest', WHERE WHAT IT READS IS OF BULK AT MOST 1048576: true; the input reads as it did. -/
def fnUnsafeUpdateRaftVoterRequestUptoRow : OpenClaim := { program := "ythekgkekchicgaadoor", sum := "53a53630a4974f9bcaa81d36e14ed94cd6bff914ce3027a20d1306153f64ebc4", func := "pub-mailsack/laws.FnUnsafeUpdateRaftVoterRequest", spec := "fnUnsafeUpdateRaftVoterRequest", inPlace := ["internal/reflectlite.ValueOf", "internal/reflectlite.Swapper", "(internal/reflectlite.Value).Len"], unfollowed := true, recurses := true, named := ["encoding/binary.BigEndian", "pub-mailsack/pub/kmsg/inner/kbin.ErrNotEnoughData"], apart := false, laid := [("pub-mailsack/pub/kmsg/inner/kbin.ErrNotEnoughData", laid_pub_mailsack_pub_kmsg_inner_kbin_ErrNotEnoughData)], narrowed := true }
def FnUnsafeUpdateRaftVoterRequestUptoSaid : Prop := fnUnsafeUpdateRaftVoterRequestUptoRow.holds Tryd.pinned (OpenSpec.upto fnUnsafeUpdateRaftVoterRequestSpec)

/-- 'laws.FnUnsafeReadShareGroupStateResponse', WHERE WHAT IT READS IS OF BULK AT MOST 1048576: true; the input reads as it did. -/
def fnUnsafeReadShareGroupStateResponseUptoRow : OpenClaim := { program := "ythekgkekchicgaadoor", sum := "53a53630a4974f9bcaa81d36e14ed94cd6bff914ce3027a20d1306153f64ebc4", func := "pub-mailsack/laws.FnUnsafeReadShareGroupStateResponse", spec := "fnUnsafeReadShareGroupStateResponse", inPlace := ["internal/reflectlite.ValueOf", "internal/reflectlite.Swapper", "(internal/reflectlite.Value).Len"], unfollowed := true, recurses := true, named := ["encoding/binary.BigEndian", "pub-mailsack/pub/kmsg/inner/kbin.ErrNotEnoughData"], apart := false, laid := [("pub-mailsack/pub/kmsg/inner/kbin.ErrNotEnoughData", laid_pub_mailsack_pub_kmsg_inner_kbin_ErrNotEnoughData)], narrowed := true }
def FnUnsafeReadShareGroupStateResponseUptoSaid : Prop := fnUnsafeReadShareGroupStateResponseUptoRow.holds Tryd.pinned (OpenSpec.upto fnUnsafeReadShareGroupStateResponseSpec)

/-- 'laws.FnUnsafeAlterPartitionRequest', WHERE WHAT IT READS IS OF BULK AT MOST 1048576: true; the input reads as it did. -/
def fnUnsafeAlterPartitionRequestUptoRow : OpenClaim := { program := "ythekgkekchicgaadoor", sum := "53a53630a4974f9bcaa81d36e14ed94cd6bff914ce3027a20d1306153f64ebc4", func := "pub-mailsack/laws.FnUnsafeAlterPartitionRequest", spec := "fnUnsafeAlterPartitionRequest", inPlace := ["internal/reflectlite.ValueOf", "internal/reflectlite.Swapper", "(internal/reflectlite.Value).Len"], unfollowed := true, recurses := true, named := ["encoding/binary.BigEndian", "pub-mailsack/pub/kmsg/inner/kbin.ErrNotEnoughData"], apart := false, laid := [("pub-mailsack/pub/kmsg/inner/kbin.ErrNotEnoughData", laid_pub_mailsack_pub_kmsg_inner_kbin_ErrNotEnoughData)], narrowed := true }
def FnUnsafeAlterPartitionRequestUptoSaid : Prop := fnUnsafeAlterPartitionRequestUptoRow.holds Tryd.pinned (OpenSpec.upto fnUnsafeAlterPartitionRequestSpec)

/-- 'laws.FnUnsafeDescribeDelegationTokenResponse', WHERE WHAT IT READS IS OF BULK AT MOST 1048576: true; the input reads as it did. -/
def fnUnsafeDescribeDelegationTokenResponseUptoRow : OpenClaim := { program := "ythekgkekchicgaadoor", sum := "53a53630a4974f9bcaa81d36e14ed94cd6bff914ce3027a20d1306153f64ebc4", func := "pub-mailsack/laws.FnUnsafeDescribeDelegationTokenResponse", spec := "fnUnsafeDescribeDelegationTokenResponse", inPlace := ["internal/reflectlite.ValueOf", "internal/reflectlite.Swapper", "(internal/reflectlite.Value).Len"], unfollowed := true, recurses := true, named := ["encoding/binary.BigEndian", "pub-mailsack/pub/kmsg/inner/kbin.ErrNotEnoughData"], apart := false, laid := [("pub-mailsack/pub/kmsg/inner/kbin.ErrNotEnoughData", laid_pub_mailsack_pub_kmsg_inner_kbin_ErrNotEnoughData)], narrowed := true }
def FnUnsafeDescribeDelegationTokenResponseUptoSaid : Prop := fnUnsafeDescribeDelegationTokenResponseUptoRow.holds Tryd.pinned (OpenSpec.upto fnUnsafeDescribeDelegationTokenResponseSpec)

/-- 'laws.FnUnsafeFetchSnapshotResponse', WHERE WHAT IT READS IS OF BULK AT MOST 1048576: true; the input reads as it did. -/
def fnUnsafeFetchSnapshotResponseUptoRow : OpenClaim := { program := "ythekgkekchicgaadoor", sum := "53a53630a4974f9bcaa81d36e14ed94cd6bff914ce3027a20d1306153f64ebc4", func := "pub-mailsack/laws.FnUnsafeFetchSnapshotResponse", spec := "fnUnsafeFetchSnapshotResponse", inPlace := ["internal/reflectlite.ValueOf", "internal/reflectlite.Swapper", "(internal/reflectlite.Value).Len"], unfollowed := true, recurses := true, named := ["encoding/binary.BigEndian", "pub-mailsack/pub/kmsg/inner/kbin.ErrNotEnoughData"], apart := false, laid := [("pub-mailsack/pub/kmsg/inner/kbin.ErrNotEnoughData", laid_pub_mailsack_pub_kmsg_inner_kbin_ErrNotEnoughData)], narrowed := true }
def FnUnsafeFetchSnapshotResponseUptoSaid : Prop := fnUnsafeFetchSnapshotResponseUptoRow.holds Tryd.pinned (OpenSpec.upto fnUnsafeFetchSnapshotResponseSpec)

end Rows
end Go.Proofs.YthekgkekchicgaaDoor
