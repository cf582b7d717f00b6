/-
  NARROWER THAN 'FOR EVERY INPUT', by the rows' own cells (each row's printed sentence says how): FnTellBrokerRegistrationResponse: loops, laid · FnDefaultInitProducerIDRequest: loops, laid · FnTellListGroupsRequest: loops, laid · FnDefaultDescribeACLsRequest: loops, laid.
  DERIVED. THE GIVEN ROWS OF THIS SEAT. 4 by the template 'for every input the law returns true; each argument reads behind the call as it read before'; 0 by the template 'total and deterministic' (their statements: YtmlpaobpdmgcgaaDoorTotals.lean).
  GIVEN WITH THE SEED: the statements are not yours to turn. If you find one false, say at which input.
  Laid BY PROGRAM, IN A SANDBOX (cutbox-rows.mjs): the forced cells as the released guide's own fill.sh prints them over the translation 84c63b77ec45f3b7… (all of the seat's roots in one cut). By AI agents, Wed Nov 11 2026. No macro, syntax, notation, axiom, sorry.
-/
import Derived.Test.YtmlpaobpdmgcgaaDoorChecked
import GoSem.Claim
import GoSem.ClaimJoined
import GoSem.ClaimMapViews
import Derived.JoinedTies
import Derived.KernelRfl
namespace Go.Proofs.YtmlpaobpdmgcgaaDoor
/- THE CELL 'sum', in the pinned program and in every row, IS THE sha256 OF THE DUMP (.gsa) THAT YtmlpaobpdmgcgaaDoorProg.lean LOADS. Nothing in Lean hashes anything: it is a label: what it is worth is what the hold of that sum in a sandbox is worth. -/
noncomputable def Tryd.pinned : Pinned := { name := "ytmlpaobpdmgcgaadoor", sum := "84c63b77ec45f3b750ab7548912c0f231333046d5d688706dd156559d86061d8", checked := Tryd.checked }
namespace Rows
def none {H : Type} : Left H := { results := [], args := [] }

/- WHAT THE LISTED PACKAGE-LEVEL VARIABLES READ AS WHEN THE CALL BEGINS. Each datum BY PROGRAM (the guide's laid-datum.mjs) off the statement by which the dump's own 'gosem.cut.vars' lays the variable. In a bare row this is a premise. The card (YtmlpaobpdmgcgaaDoorCards.lean) ties it to the program's text. -/
def laid_pub_mailsack_pub_kmsg_inner_kbin_ErrNotEnoughData {H : Type} : DataW H := .iface "*errors.errorString" (.ptr (.agg [.lit (.string [114, 101, 115, 112, 111, 110, 115, 101, 32, 100, 105, 100, 32, 110, 111, 116, 32, 99, 111, 110, 116, 97, 105, 110, 32, 101, 110, 111, 117, 103, 104, 32, 100, 97, 116, 97, 32, 116, 111, 32, 98, 101, 32, 118, 97, 108, 105, 100])]))

/-- 'laws.FnTellBrokerRegistrationResponse': WHATEVER THE INPUT: true; the input reads as it did. -/
def fnTellBrokerRegistrationResponseSpec : ChangeSpec := { name := "fnTellBrokerRegistrationResponse", fn := fun _ => fun
  | [d1, d2] => { results := [.lit (.bool true)], args := [d1, d2] }
  | _ => none }
def fnTellBrokerRegistrationResponseRow : OpenClaim := { program := "ytmlpaobpdmgcgaadoor", sum := "84c63b77ec45f3b750ab7548912c0f231333046d5d688706dd156559d86061d8", func := "pub-mailsack/laws.FnTellBrokerRegistrationResponse", spec := "fnTellBrokerRegistrationResponse", inPlace := ["internal/reflectlite.ValueOf", "internal/reflectlite.Swapper", "(internal/reflectlite.Value).Len"], unfollowed := true, recurses := true, named := ["encoding/binary.BigEndian", "pub-mailsack/pub/kmsg/inner/kbin.ErrNotEnoughData"], loops := true, apart := false, laid := [("pub-mailsack/pub/kmsg/inner/kbin.ErrNotEnoughData", laid_pub_mailsack_pub_kmsg_inner_kbin_ErrNotEnoughData)] }
def FnTellBrokerRegistrationResponseSaid : Prop := fnTellBrokerRegistrationResponseRow.holds Tryd.pinned (OpenSpec.ofChange fnTellBrokerRegistrationResponseSpec)

/-- ITS FALSE NEIGHBOUR: 'it returns false'. Refute it at one input. -/
def fnTellBrokerRegistrationResponseWrong : ChangeSpec := { name := "fnTellBrokerRegistrationResponse", fn := fun _ => fun
  | [d1, d2] => { results := [.lit (.bool false)], args := [d1, d2] }
  | _ => none }
def FnTellBrokerRegistrationResponseWrongFalsely : Prop := fnTellBrokerRegistrationResponseRow.holds Tryd.pinned (OpenSpec.ofChange fnTellBrokerRegistrationResponseWrong)

/-- 'laws.FnDefaultInitProducerIDRequest': WHATEVER THE INPUT: true; the input reads as it did. -/
def fnDefaultInitProducerIDRequestSpec : ChangeSpec := { name := "fnDefaultInitProducerIDRequest", fn := fun _ => fun
  | [d1, d2] => { results := [.lit (.bool true)], args := [d1, d2] }
  | _ => none }
def fnDefaultInitProducerIDRequestRow : OpenClaim := { program := "ytmlpaobpdmgcgaadoor", sum := "84c63b77ec45f3b750ab7548912c0f231333046d5d688706dd156559d86061d8", func := "pub-mailsack/laws.FnDefaultInitProducerIDRequest", spec := "fnDefaultInitProducerIDRequest", inPlace := ["internal/reflectlite.ValueOf", "internal/reflectlite.Swapper", "(internal/reflectlite.Value).Len"], unfollowed := true, recurses := true, named := ["encoding/binary.BigEndian", "pub-mailsack/pub/kmsg/inner/kbin.ErrNotEnoughData"], loops := true, apart := false, laid := [("pub-mailsack/pub/kmsg/inner/kbin.ErrNotEnoughData", laid_pub_mailsack_pub_kmsg_inner_kbin_ErrNotEnoughData)] }
def FnDefaultInitProducerIDRequestSaid : Prop := fnDefaultInitProducerIDRequestRow.holds Tryd.pinned (OpenSpec.ofChange fnDefaultInitProducerIDRequestSpec)

/-- ITS FALSE NEIGHBOUR: 'it returns false'. Refute it at one input. -/
def fnDefaultInitProducerIDRequestWrong : ChangeSpec := { name := "fnDefaultInitProducerIDRequest", fn := fun _ => fun
  | [d1, d2] => { results := [.lit (.bool false)], args := [d1, d2] }
  | _ => none }
def FnDefaultInitProducerIDRequestWrongFalsely : Prop := fnDefaultInitProducerIDRequestRow.holds Tryd.pinned (OpenSpec.ofChange fnDefaultInitProducerIDRequestWrong)

/-- 'laws.FnTellListGroupsRequest': WHATEVER THE INPUT: true; the input reads as it did. -/
def fnTellListGroupsRequestSpec : ChangeSpec := { name := "fnTellListGroupsRequest", fn := fun _ => fun
  | [d1, d2] => { results := [.lit (.bool true)], args := [d1, d2] }
  | _ => none }
def fnTellListGroupsRequestRow : OpenClaim := { program := "ytmlpaobpdmgcgaadoor", sum := "84c63b77ec45f3b750ab7548912c0f231333046d5d688706dd156559d86061d8", func := "pub-mailsack/laws.FnTellListGroupsRequest", spec := "fnTellListGroupsRequest", inPlace := ["internal/reflectlite.ValueOf", "internal/reflectlite.Swapper", "(internal/reflectlite.Value).Len"], unfollowed := true, recurses := true, named := ["encoding/binary.BigEndian", "pub-mailsack/pub/kmsg/inner/kbin.ErrNotEnoughData"], loops := true, apart := false, laid := [("pub-mailsack/pub/kmsg/inner/kbin.ErrNotEnoughData", laid_pub_mailsack_pub_kmsg_inner_kbin_ErrNotEnoughData)] }
def FnTellListGroupsRequestSaid : Prop := fnTellListGroupsRequestRow.holds Tryd.pinned (OpenSpec.ofChange fnTellListGroupsRequestSpec)

/-- ITS FALSE NEIGHBOUR: 'it returns false'. Refute it at one input. -/
def fnTellListGroupsRequestWrong : ChangeSpec := { name := "fnTellListGroupsRequest", fn := fun _ => fun
  | [d1, d2] => { results := [.lit (.bool false)], args := [d1, d2] }
  | _ => none }
def FnTellListGroupsRequestWrongFalsely : Prop := fnTellListGroupsRequestRow.holds Tryd.pinned (OpenSpec.ofChange fnTellListGroupsRequestWrong)

/-- 'laws.FnDefaultDescribeACLsRequest': WHATEVER THE INPUT: true; the input reads as it did. -/
def fnDefaultDescribeACLsRequestSpec : ChangeSpec := { name := "fnDefaultDescribeACLsRequest", fn := fun _ => fun
  | [d1, d2] => { results := [.lit (.bool true)], args := [d1, d2] }
  | _ => none }
def fnDefaultDescribeACLsRequestRow : OpenClaim := { program := "ytmlpaobpdmgcgaadoor", sum := "84c63b77ec45f3b750ab7548912c0f231333046d5d688706dd156559d86061d8", func := "pub-mailsack/laws.FnDefaultDescribeACLsRequest", spec := "fnDefaultDescribeACLsRequest", inPlace := ["internal/reflectlite.ValueOf", "internal/reflectlite.Swapper", "(internal/reflectlite.Value).Len"], unfollowed := true, recurses := true, named := ["encoding/binary.BigEndian", "pub-mailsack/pub/kmsg/inner/kbin.ErrNotEnoughData"], loops := true, apart := false, laid := [("pub-mailsack/pub/kmsg/inner/kbin.ErrNotEnoughData", laid_pub_mailsack_pub_kmsg_inner_kbin_ErrNotEnoughData)] }
def FnDefaultDescribeACLsRequestSaid : Prop := fnDefaultDescribeACLsRequestRow.holds Tryd.pinned (OpenSpec.ofChange fnDefaultDescribeACLsRequestSpec)

/-- ITS FALSE NEIGHBOUR: 'it returns false'. Refute it at one input. -/
def fnDefaultDescribeACLsRequestWrong : ChangeSpec := { name := "fnDefaultDescribeACLsRequest", fn := fun _ => fun
  | [d1, d2] => { results := [.lit (.bool false)], args := [d1, d2] }
  | _ => none }
def FnDefaultDescribeACLsRequestWrongFalsely : Prop := fnDefaultDescribeACLsRequestRow.holds Tryd.pinned (OpenSpec.ofChange fnDefaultDescribeACLsRequestWrong)

/- THE SECOND FORM. 'bulk': how many values and letters a reading holds, each counted each time it is reached (what is shared counts as often as it is met; a slice's spare places count too). A statement '..UptoSaid' is the law's where the arguments, and the package variables that the reading takes, are together of bulk at most 1048576: NARROWER than '..Said'. Prove '..Said' where nothing that the law and all that it calls make is longer than what came in: it says more and counts as full. Else prove '..UptoSaid'. A law counts once. -/
mutual
def uptoBulk {H : Type} : DataW H → Nat
  | .lit (.string bytes) => bytes.length + 1
  | .lit _ => 1
  | .nil => 1
  | .ptr d => uptoBulk d + 1
  | .slice elems spare => uptoBulkAll elems + uptoBulkAll spare + 1
  | .agg parts => uptoBulkAll parts + 1
  | .iface _ d => uptoBulk d + 1
  | .map entries => uptoBulkEntries entries + 1
  | .held _ => 1
def uptoBulkAll {H : Type} : List (DataW H) → Nat
  | [] => 0
  | d :: r => uptoBulk d + uptoBulkAll r
def uptoBulkEntries {H : Type} : List (Lit × DataW H) → Nat
  | [] => 0
  | x :: r => uptoBulkEntry x + uptoBulkEntries r
def uptoBulkEntry {H : Type} : Lit × DataW H → Nat
  | (.string bytes, d) => bytes.length + uptoBulk d + 1
  | (_, d) => uptoBulk d + 1
 end
def uptoSmall : (H : Type) → List (DataW H) → Bool := fun _ ds => decide (uptoBulkAll ds ≤ 1048576)
def OpenSpec.upto (s : _root_.Go.ChangeSpec) : _root_.Go.OpenSpec := { _root_.Go.OpenSpec.ofChange s with cond := some uptoSmall }

/-- 'laws.FnTellBrokerRegistrationResponse', WHERE WHAT IT READS IS OF BULK AT MOST 1048576: true; the input reads as it did. -/
def fnTellBrokerRegistrationResponseUptoRow : OpenClaim := { program := "ytmlpaobpdmgcgaadoor", sum := "84c63b77ec45f3b750ab7548912c0f231333046d5d688706dd156559d86061d8", func := "pub-mailsack/laws.FnTellBrokerRegistrationResponse", spec := "fnTellBrokerRegistrationResponse", inPlace := ["internal/reflectlite.ValueOf", "internal/reflectlite.Swapper", "(internal/reflectlite.Value).Len"], unfollowed := true, recurses := true, named := ["encoding/binary.BigEndian", "pub-mailsack/pub/kmsg/inner/kbin.ErrNotEnoughData"], loops := true, apart := false, laid := [("pub-mailsack/pub/kmsg/inner/kbin.ErrNotEnoughData", laid_pub_mailsack_pub_kmsg_inner_kbin_ErrNotEnoughData)], narrowed := true }
def FnTellBrokerRegistrationResponseUptoSaid : Prop := fnTellBrokerRegistrationResponseUptoRow.holds Tryd.pinned (OpenSpec.upto fnTellBrokerRegistrationResponseSpec)

/-- 'laws.FnDefaultInitProducerIDRequest', WHERE WHAT IT READS IS OF BULK AT MOST 1048576: true; the input reads as it did. -/
def fnDefaultInitProducerIDRequestUptoRow : OpenClaim := { program := "ytmlpaobpdmgcgaadoor", sum := "84c63b77ec45f3b750ab7548912c0f231333046d5d688706dd156559d86061d8", func := "pub-mailsack/laws.FnDefaultInitProducerIDRequest", spec := "fnDefaultInitProducerIDRequest", inPlace := ["internal/reflectlite.ValueOf", "internal/reflectlite.Swapper", "(internal/reflectlite.Value).Len"], unfollowed := true, recurses := true, named := ["encoding/binary.BigEndian", "pub-mailsack/pub/kmsg/inner/kbin.ErrNotEnoughData"], loops := true, apart := false, laid := [("pub-mailsack/pub/kmsg/inner/kbin.ErrNotEnoughData", laid_pub_mailsack_pub_kmsg_inner_kbin_ErrNotEnoughData)], narrowed := true }
def FnDefaultInitProducerIDRequestUptoSaid : Prop := fnDefaultInitProducerIDRequestUptoRow.holds Tryd.pinned (OpenSpec.upto fnDefaultInitProducerIDRequestSpec)

/-- 'laws.FnTellListGroupsRequest', WHERE WHAT IT READS IS OF BULK AT MOST 1048576: true; the input reads as it did. -/
def fnTellListGroupsRequestUptoRow : OpenClaim := { program := "ytmlpaobpdmgcgaadoor", sum := "84c63b77ec45f3b750ab7548912c0f231333046d5d688706dd156559d86061d8", func := "pub-mailsack/laws.FnTellListGroupsRequest", spec := "fnTellListGroupsRequest", inPlace := ["internal/reflectlite.ValueOf", "internal/reflectlite.Swapper", "(internal/reflectlite.Value).Len"], unfollowed := true, recurses := true, named := ["encoding/binary.BigEndian", "pub-mailsack/pub/kmsg/inner/kbin.ErrNotEnoughData"], loops := true, apart := false, laid := [("pub-mailsack/pub/kmsg/inner/kbin.ErrNotEnoughData", laid_pub_mailsack_pub_kmsg_inner_kbin_ErrNotEnoughData)], narrowed := true }
def FnTellListGroupsRequestUptoSaid : Prop := fnTellListGroupsRequestUptoRow.holds Tryd.pinned (OpenSpec.upto fnTellListGroupsRequestSpec)

/-- 'laws.FnDefaultDescribeACLsRequest', WHERE WHAT IT READS IS OF BULK AT MOST 1048576: true; the input reads as it did. -/
def fnDefaultDescribeACLsRequestUptoRow : OpenClaim := { program := "ytmlpaobpdmgcgaadoor", sum := "84c63b77ec45f3b750ab7548912c0f231333046d5d688706dd156559d86061d8", func := "pub-mailsack/laws.FnDefaultDescribeACLsRequest", spec := "fnDefaultDescribeACLsRequest", inPlace := ["internal/reflectlite.ValueOf", "internal/reflectlite.Swapper", "(internal/reflectlite.Value).Len"], unfollowed := true, recurses := true, named := ["encoding/binary.BigEndian", "pub-mailsack/pub/kmsg/inner/kbin.ErrNotEnoughData"], loops := true, apart := false, laid := [("pub-mailsack/pub/kmsg/inner/kbin.ErrNotEnoughData", laid_pub_mailsack_pub_kmsg_inner_kbin_ErrNotEnoughData)], narrowed := true }
def FnDefaultDescribeACLsRequestUptoSaid : Prop := fnDefaultDescribeACLsRequestUptoRow.holds Tryd.pinned (OpenSpec.upto fnDefaultDescribeACLsRequestSpec)

end Rows
end Go.Proofs.YtmlpaobpdmgcgaaDoor
