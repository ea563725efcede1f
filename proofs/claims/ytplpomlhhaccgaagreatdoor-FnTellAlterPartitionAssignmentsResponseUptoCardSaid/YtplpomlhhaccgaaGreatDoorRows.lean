/-
  NARROWER THAN 'FOR EVERY INPUT', by the rows' own cells (each row's printed sentence says how): FnTellApiVersionsRequest: loops, laid · FnTellDescribeDelegationTokenRequest: loops, laid · FnTellReadShareGroupStateRequest: loops, laid · FnTellInitializeShareGroupStateRequest: loops, laid · FnTellReadShareGroupStateSummaryResponse: loops, laid · FnTellFindCoordinatorResponse: loops, laid · FnTellAlterPartitionAssignmentsResponse: loops, laid.
  DERIVED. THE GIVEN ROWS OF THIS SEAT. 7 by the template 'for every input the law returns true; each argument reads behind the call as it read before'; 0 by the template 'total and deterministic' (their statements: YtplpomlhhaccgaaGreatDoorTotals.lean).
  GIVEN WITH THE SEED: the statements are not yours to turn. If you find one false, say at which input.
  Laid BY PROGRAM, IN A SANDBOX (cutbox-rows.mjs): the forced cells as the released guide's own fill.sh prints them over the translation 1339a96d40ccba2d… (all of the seat's roots in one cut). By AI agents, Wed Nov 11 2026. No macro, syntax, notation, axiom, sorry.
-/
import Derived.Test.YtplpomlhhaccgaaGreatDoorChecked
import GoSem.Claim
import GoSem.ClaimJoined
import GoSem.ClaimMapViews
import Derived.JoinedTies
import Derived.KernelRfl
namespace Go.Proofs.YtplpomlhhaccgaaGreatDoor
/- THE CELL 'sum', in the pinned program and in every row, IS THE sha256 OF THE DUMP (.gsa) THAT YtplpomlhhaccgaaGreatDoorProg.lean LOADS. Nothing in Lean hashes anything: it is a label: what it is worth is what the hold of that sum in a sandbox is worth. -/
noncomputable def Tryz.pinned : Pinned := { name := "ytplpomlhhaccgaagreatdoor", sum := "1339a96d40ccba2d5f38c312bc3a004f4c92b5964cdbeb23e90c62afa0e2d074", checked := Tryz.checked }
namespace Rows
def none {H : Type} : Left H := { results := [], args := [] }

/- WHAT THE LISTED PACKAGE-LEVEL VARIABLES READ AS WHEN THE CALL BEGINS. Each datum BY PROGRAM (the guide's laid-datum.mjs) off the statement by which the dump's own 'gosem.cut.vars' lays the variable. In a bare row this is a premise. The card (YtplpomlhhaccgaaGreatDoorCards.lean) ties it to the program's text. -/
def laid_pub_mailsack_pub_kmsg_inner_kbin_ErrNotEnoughData {H : Type} : DataW H := .iface "*errors.errorString" (.ptr (.agg [.lit (.string [114, 101, 115, 112, 111, 110, 115, 101, 32, 100, 105, 100, 32, 110, 111, 116, 32, 99, 111, 110, 116, 97, 105, 110, 32, 101, 110, 111, 117, 103, 104, 32, 100, 97, 116, 97, 32, 116, 111, 32, 98, 101, 32, 118, 97, 108, 105, 100])]))

/-- 'laws.FnTellApiVersionsRequest': WHATEVER THE INPUT: true; the input reads as it did. -/
def fnTellApiVersionsRequestSpec : ChangeSpec := { name := "fnTellApiVersionsRequest", fn := fun _ => fun
  | [d1, d2] => { results := [.lit (.bool true)], args := [d1, d2] }
  | _ => none }
def fnTellApiVersionsRequestRow : OpenClaim := { program := "ytplpomlhhaccgaagreatdoor", sum := "1339a96d40ccba2d5f38c312bc3a004f4c92b5964cdbeb23e90c62afa0e2d074", func := "pub-mailsack/laws.FnTellApiVersionsRequest", spec := "fnTellApiVersionsRequest", inPlace := ["internal/reflectlite.ValueOf", "internal/reflectlite.Swapper", "(internal/reflectlite.Value).Len"], unfollowed := true, recurses := true, named := ["encoding/binary.BigEndian", "pub-mailsack/pub/kmsg/inner/kbin.ErrNotEnoughData"], loops := true, apart := false, laid := [("pub-mailsack/pub/kmsg/inner/kbin.ErrNotEnoughData", laid_pub_mailsack_pub_kmsg_inner_kbin_ErrNotEnoughData)] }
def FnTellApiVersionsRequestSaid : Prop := fnTellApiVersionsRequestRow.holds Tryz.pinned (OpenSpec.ofChange fnTellApiVersionsRequestSpec)

/-- ITS FALSE NEIGHBOUR: 'it returns false'. Refute it at one input. -/
def fnTellApiVersionsRequestWrong : ChangeSpec := { name := "fnTellApiVersionsRequest", fn := fun _ => fun
  | [d1, d2] => { results := [.lit (.bool false)], args := [d1, d2] }
  | _ => none }
def FnTellApiVersionsRequestWrongFalsely : Prop := fnTellApiVersionsRequestRow.holds Tryz.pinned (OpenSpec.ofChange fnTellApiVersionsRequestWrong)

/-- 'laws.FnTellDescribeDelegationTokenRequest': WHATEVER THE INPUT: true; the input reads as it did. -/
def fnTellDescribeDelegationTokenRequestSpec : ChangeSpec := { name := "fnTellDescribeDelegationTokenRequest", fn := fun _ => fun
  | [d1, d2] => { results := [.lit (.bool true)], args := [d1, d2] }
  | _ => none }
def fnTellDescribeDelegationTokenRequestRow : OpenClaim := { program := "ytplpomlhhaccgaagreatdoor", sum := "1339a96d40ccba2d5f38c312bc3a004f4c92b5964cdbeb23e90c62afa0e2d074", func := "pub-mailsack/laws.FnTellDescribeDelegationTokenRequest", spec := "fnTellDescribeDelegationTokenRequest", inPlace := ["internal/reflectlite.ValueOf", "internal/reflectlite.Swapper", "(internal/reflectlite.Value).Len"], unfollowed := true, recurses := true, named := ["encoding/binary.BigEndian", "pub-mailsack/pub/kmsg/inner/kbin.ErrNotEnoughData"], loops := true, apart := false, laid := [("pub-mailsack/pub/kmsg/inner/kbin.ErrNotEnoughData", laid_pub_mailsack_pub_kmsg_inner_kbin_ErrNotEnoughData)] }
def FnTellDescribeDelegationTokenRequestSaid : Prop := fnTellDescribeDelegationTokenRequestRow.holds Tryz.pinned (OpenSpec.ofChange fnTellDescribeDelegationTokenRequestSpec)

/-- ITS FALSE NEIGHBOUR: 'it returns false'. Refute it at one input. -/
def fnTellDescribeDelegationTokenRequestWrong : ChangeSpec := { name := "fnTellDescribeDelegationTokenRequest", fn := fun _ => fun
  | [d1, d2] => { results := [.lit (.bool false)], args := [d1, d2] }
  | _ => none }
def FnTellDescribeDelegationTokenRequestWrongFalsely : Prop := fnTellDescribeDelegationTokenRequestRow.holds Tryz.pinned (OpenSpec.ofChange fnTellDescribeDelegationTokenRequestWrong)

/-- 'laws.FnTellReadShareGroupStateRequest': WHATEVER THE INPUT: true; the input reads as it did. -/
def fnTellReadShareGroupStateRequestSpec : ChangeSpec := { name := "fnTellReadShareGroupStateRequest", fn := fun _ => fun
  | [d1, d2] => { results := [.lit (.bool true)], args := [d1, d2] }
  | _ => none }
def fnTellReadShareGroupStateRequestRow : OpenClaim := { program := "ytplpomlhhaccgaagreatdoor", sum := "1339a96d40ccba2d5f38c312bc3a004f4c92b5964cdbeb23e90c62afa0e2d074", func := "pub-mailsack/laws.FnTellReadShareGroupStateRequest", spec := "fnTellReadShareGroupStateRequest", inPlace := ["internal/reflectlite.ValueOf", "internal/reflectlite.Swapper", "(internal/reflectlite.Value).Len"], unfollowed := true, recurses := true, named := ["encoding/binary.BigEndian", "pub-mailsack/pub/kmsg/inner/kbin.ErrNotEnoughData"], loops := true, apart := false, laid := [("pub-mailsack/pub/kmsg/inner/kbin.ErrNotEnoughData", laid_pub_mailsack_pub_kmsg_inner_kbin_ErrNotEnoughData)] }
def FnTellReadShareGroupStateRequestSaid : Prop := fnTellReadShareGroupStateRequestRow.holds Tryz.pinned (OpenSpec.ofChange fnTellReadShareGroupStateRequestSpec)

/-- ITS FALSE NEIGHBOUR: 'it returns false'. Refute it at one input. -/
def fnTellReadShareGroupStateRequestWrong : ChangeSpec := { name := "fnTellReadShareGroupStateRequest", fn := fun _ => fun
  | [d1, d2] => { results := [.lit (.bool false)], args := [d1, d2] }
  | _ => none }
def FnTellReadShareGroupStateRequestWrongFalsely : Prop := fnTellReadShareGroupStateRequestRow.holds Tryz.pinned (OpenSpec.ofChange fnTellReadShareGroupStateRequestWrong)

/-- 'laws.FnTellInitializeShareGroupStateRequest': WHATEVER THE INPUT: true; the input reads as it did. -/
def fnTellInitializeShareGroupStateRequestSpec : ChangeSpec := { name := "fnTellInitializeShareGroupStateRequest", fn := fun _ => fun
  | [d1, d2] => { results := [.lit (.bool true)], args := [d1, d2] }
  | _ => none }
def fnTellInitializeShareGroupStateRequestRow : OpenClaim := { program := "ytplpomlhhaccgaagreatdoor", sum := "1339a96d40ccba2d5f38c312bc3a004f4c92b5964cdbeb23e90c62afa0e2d074", func := "pub-mailsack/laws.FnTellInitializeShareGroupStateRequest", spec := "fnTellInitializeShareGroupStateRequest", inPlace := ["internal/reflectlite.ValueOf", "internal/reflectlite.Swapper", "(internal/reflectlite.Value).Len"], unfollowed := true, recurses := true, named := ["encoding/binary.BigEndian", "pub-mailsack/pub/kmsg/inner/kbin.ErrNotEnoughData"], loops := true, apart := false, laid := [("pub-mailsack/pub/kmsg/inner/kbin.ErrNotEnoughData", laid_pub_mailsack_pub_kmsg_inner_kbin_ErrNotEnoughData)] }
def FnTellInitializeShareGroupStateRequestSaid : Prop := fnTellInitializeShareGroupStateRequestRow.holds Tryz.pinned (OpenSpec.ofChange fnTellInitializeShareGroupStateRequestSpec)

/-- ITS FALSE NEIGHBOUR: 'it returns false'. Refute it at one input. -/
def fnTellInitializeShareGroupStateRequestWrong : ChangeSpec := { name := "fnTellInitializeShareGroupStateRequest", fn := fun _ => fun
  | [d1, d2] => { results := [.lit (.bool false)], args := [d1, d2] }
  | _ => none }
def FnTellInitializeShareGroupStateRequestWrongFalsely : Prop := fnTellInitializeShareGroupStateRequestRow.holds Tryz.pinned (OpenSpec.ofChange fnTellInitializeShareGroupStateRequestWrong)

/-- 'laws.FnTellReadShareGroupStateSummaryResponse': WHATEVER THE INPUT: true; the input reads as it did. -/
def fnTellReadShareGroupStateSummaryResponseSpec : ChangeSpec := { name := "fnTellReadShareGroupStateSummaryResponse", fn := fun _ => fun
  | [d1, d2] => { results := [.lit (.bool true)], args := [d1, d2] }
  | _ => none }
def fnTellReadShareGroupStateSummaryResponseRow : OpenClaim := { program := "ytplpomlhhaccgaagreatdoor", sum := "1339a96d40ccba2d5f38c312bc3a004f4c92b5964cdbeb23e90c62afa0e2d074", func := "pub-mailsack/laws.FnTellReadShareGroupStateSummaryResponse", spec := "fnTellReadShareGroupStateSummaryResponse", inPlace := ["internal/reflectlite.ValueOf", "internal/reflectlite.Swapper", "(internal/reflectlite.Value).Len"], unfollowed := true, recurses := true, named := ["encoding/binary.BigEndian", "pub-mailsack/pub/kmsg/inner/kbin.ErrNotEnoughData"], loops := true, apart := false, laid := [("pub-mailsack/pub/kmsg/inner/kbin.ErrNotEnoughData", laid_pub_mailsack_pub_kmsg_inner_kbin_ErrNotEnoughData)] }
def FnTellReadShareGroupStateSummaryResponseSaid : Prop := fnTellReadShareGroupStateSummaryResponseRow.holds Tryz.pinned (OpenSpec.ofChange fnTellReadShareGroupStateSummaryResponseSpec)

/-- ITS FALSE NEIGHBOUR: 'it returns false'. Refute it at one input. -/
def fnTellReadShareGroupStateSummaryResponseWrong : ChangeSpec := { name := "fnTellReadShareGroupStateSummaryResponse", fn := fun _ => fun
  | [d1, d2] => { results := [.lit (.bool false)], args := [d1, d2] }
  | _ => none }
def FnTellReadShareGroupStateSummaryResponseWrongFalsely : Prop := fnTellReadShareGroupStateSummaryResponseRow.holds Tryz.pinned (OpenSpec.ofChange fnTellReadShareGroupStateSummaryResponseWrong)

/-- 'laws.FnTellFindCoordinatorResponse': WHATEVER THE INPUT: true; the input reads as it did. -/
def fnTellFindCoordinatorResponseSpec : ChangeSpec := { name := "fnTellFindCoordinatorResponse", fn := fun _ => fun
  | [d1, d2] => { results := [.lit (.bool true)], args := [d1, d2] }
  | _ => none }
def fnTellFindCoordinatorResponseRow : OpenClaim := { program := "ytplpomlhhaccgaagreatdoor", sum := "1339a96d40ccba2d5f38c312bc3a004f4c92b5964cdbeb23e90c62afa0e2d074", func := "pub-mailsack/laws.FnTellFindCoordinatorResponse", spec := "fnTellFindCoordinatorResponse", inPlace := ["internal/reflectlite.ValueOf", "internal/reflectlite.Swapper", "(internal/reflectlite.Value).Len"], unfollowed := true, recurses := true, named := ["encoding/binary.BigEndian", "pub-mailsack/pub/kmsg/inner/kbin.ErrNotEnoughData"], loops := true, apart := false, laid := [("pub-mailsack/pub/kmsg/inner/kbin.ErrNotEnoughData", laid_pub_mailsack_pub_kmsg_inner_kbin_ErrNotEnoughData)] }
def FnTellFindCoordinatorResponseSaid : Prop := fnTellFindCoordinatorResponseRow.holds Tryz.pinned (OpenSpec.ofChange fnTellFindCoordinatorResponseSpec)

/-- ITS FALSE NEIGHBOUR: 'it returns false'. Refute it at one input. -/
def fnTellFindCoordinatorResponseWrong : ChangeSpec := { name := "fnTellFindCoordinatorResponse", fn := fun _ => fun
  | [d1, d2] => { results := [.lit (.bool false)], args := [d1, d2] }
  | _ => none }
def FnTellFindCoordinatorResponseWrongFalsely : Prop := fnTellFindCoordinatorResponseRow.holds Tryz.pinned (OpenSpec.ofChange fnTellFindCoordinatorResponseWrong)

/-- 'laws.FnTellAlterPartitionAssignmentsResponse': WHATEVER THE INPUT: true; the input reads as it did. -/
def fnTellAlterPartitionAssignmentsResponseSpec : ChangeSpec := { name := "fnTellAlterPartitionAssignmentsResponse", fn := fun _ => fun
  | [d1, d2] => { results := [.lit (.bool true)], args := [d1, d2] }
  | _ => none }
def fnTellAlterPartitionAssignmentsResponseRow : OpenClaim := { program := "ytplpomlhhaccgaagreatdoor", sum := "1339a96d40ccba2d5f38c312bc3a004f4c92b5964cdbeb23e90c62afa0e2d074", func := "pub-mailsack/laws.FnTellAlterPartitionAssignmentsResponse", spec := "fnTellAlterPartitionAssignmentsResponse", inPlace := ["internal/reflectlite.ValueOf", "internal/reflectlite.Swapper", "(internal/reflectlite.Value).Len"], unfollowed := true, recurses := true, named := ["encoding/binary.BigEndian", "pub-mailsack/pub/kmsg/inner/kbin.ErrNotEnoughData"], loops := true, apart := false, laid := [("pub-mailsack/pub/kmsg/inner/kbin.ErrNotEnoughData", laid_pub_mailsack_pub_kmsg_inner_kbin_ErrNotEnoughData)] }
def FnTellAlterPartitionAssignmentsResponseSaid : Prop := fnTellAlterPartitionAssignmentsResponseRow.holds Tryz.pinned (OpenSpec.ofChange fnTellAlterPartitionAssignmentsResponseSpec)

/-- ITS FALSE NEIGHBOUR: 'it returns false'. Refute it at one input. -/
def fnTellAlterPartitionAssignmentsResponseWrong : ChangeSpec := { name := "fnTellAlterPartitionAssignmentsResponse", fn := fun _ => fun
  | [d1, d2] => { results := [.lit (.bool false)], args := [d1, d2] }
  | _ => none }
def FnTellAlterPartitionAssignmentsResponseWrongFalsely : Prop := fnTellAlterPartitionAssignmentsResponseRow.holds Tryz.pinned (OpenSpec.ofChange fnTellAlterPartitionAssignmentsResponseWrong)

/- THE SECOND FORM. 'bulk': how many values and letters a reading holds, each counted each time it is reached (what is shared counts as often as it is met; a slice's spare places count too). A statement '..UptoSaid' is the law's where the arguments, and the package variables that the reading takes, are together of bulk at most 1048576: NARROWER than '..Said'. Prove '..Said' where nothing that the law and all that it calls make is longer than what came in: it says more and counts as full. Else prove '..UptoSaid'. A law counts once. -/
mutual
def uptoBulk {H : Type} : DataW H → Nat
  | .lit (.string bytes) => bytes.length + 1
  | .lit _ => 1
  | .nil => 1
  | .ptr d => uptoBulk d + 1
  | .slice elems spare => uptoBulkAll elems + uptoBulkAll spare + 1
  | .agg parts => uptoBulkAll parts + 1
  | .iface _ d => uptoBulk d + 1
  | .map entries => uptoBulkEntries entries + 1
  | .held _ => 1
def uptoBulkAll {H : Type} : List (DataW H) → Nat
  | [] => 0
  | d :: r => uptoBulk d + uptoBulkAll r
def uptoBulkEntries {H : Type} : List (Lit × DataW H) → Nat
  | [] => 0
  | x :: r => uptoBulkEntry x + uptoBulkEntries r
def uptoBulkEntry {H : Type} : Lit × DataW H → Nat
  | (.string bytes, d) => bytes.length + uptoBulk d + 1
  | (_, d) => uptoBulk d + 1
 end
def uptoSmall : (H : Type) → List (DataW H) → Bool := fun _ ds => decide (uptoBulkAll ds ≤ 1048576)
def OpenSpec.upto (s : _root_.Go.ChangeSpec) : _root_.Go.OpenSpec := { _root_.Go.OpenSpec.ofChange s with cond := some uptoSmall }

/-- 'laws.FnTellApiVersionsRequest', WHERE WHAT IT READS IS OF BULK AT MOST 1048576: true; the input reads as it did. -/
def fnTellApiVersionsRequestUptoRow : OpenClaim := { program := "ytplpomlhhaccgaagreatdoor", sum := "1339a96d40ccba2d5f38c312bc3a004f4c92b5964cdbeb23e90c62afa0e2d074", func := "pub-mailsack/laws.FnTellApiVersionsRequest", spec := "fnTellApiVersionsRequest", inPlace := ["internal/reflectlite.ValueOf", "internal/reflectlite.Swapper", "(internal/reflectlite.Value).Len"], unfollowed := true, recurses := true, named := ["encoding/binary.BigEndian", "pub-mailsack/pub/kmsg/inner/kbin.ErrNotEnoughData"], loops := true, apart := false, laid := [("pub-mailsack/pub/kmsg/inner/kbin.ErrNotEnoughData", laid_pub_mailsack_pub_kmsg_inner_kbin_ErrNotEnoughData)], narrowed := true }
def FnTellApiVersionsRequestUptoSaid : Prop := fnTellApiVersionsRequestUptoRow.holds Tryz.pinned (OpenSpec.upto fnTellApiVersionsRequestSpec)

/-- 'laws.FnTellDescribeDelegationTokenRequest', WHERE WHAT IT READS IS OF BULK AT MOST 1048576: true; the input reads as it did. -/
def fnTellDescribeDelegationTokenRequestUptoRow : OpenClaim := { program := "ytplpomlhhaccgaagreatdoor", sum := "1339a96d40ccba2d5f38c312bc3a004f4c92b5964cdbeb23e90c62afa0e2d074", func := "pub-mailsack/laws.FnTellDescribeDelegationTokenRequest", spec := "fnTellDescribeDelegationTokenRequest", inPlace := ["internal/reflectlite.ValueOf", "internal/reflectlite.Swapper", "(internal/reflectlite.Value).Len"], unfollowed := true, recurses := true, named := ["encoding/binary.BigEndian", "pub-mailsack/pub/kmsg/inner/kbin.ErrNotEnoughData"], loops := true, apart := false, laid := [("pub-mailsack/pub/kmsg/inner/kbin.ErrNotEnoughData", laid_pub_mailsack_pub_kmsg_inner_kbin_ErrNotEnoughData)], narrowed := true }
def FnTellDescribeDelegationTokenRequestUptoSaid : Prop := fnTellDescribeDelegationTokenRequestUptoRow.holds Tryz.pinned (OpenSpec.upto fnTellDescribeDelegationTokenRequestSpec)

/-- 'laws.FnTellReadShareGroupStateRequest', WHERE WHAT IT READS IS OF BULK AT MOST 1048576: true; the input reads as it did. -/
def fnTellReadShareGroupStateRequestUptoRow : OpenClaim := { program := "ytplpomlhhaccgaagreatdoor", sum := "1339a96d40ccba2d5f38c312bc3a004f4c92b5964cdbeb23e90c62afa0e2d074", func := "pub-mailsack/laws.FnTellReadShareGroupStateRequest", spec := "fnTellReadShareGroupStateRequest", inPlace := ["internal/reflectlite.ValueOf", "internal/reflectlite.Swapper", "(internal/reflectlite.Value).Len"], unfollowed := true, recurses := true, named := ["encoding/binary.BigEndian", "pub-mailsack/pub/kmsg/inner/kbin.ErrNotEnoughData"], loops := true, apart := false, laid := [("pub-mailsack/pub/kmsg/inner/kbin.ErrNotEnoughData", laid_pub_mailsack_pub_kmsg_inner_kbin_ErrNotEnoughData)], narrowed := true }
def FnTellReadShareGroupStateRequestUptoSaid : Prop := fnTellReadShareGroupStateRequestUptoRow.holds Tryz.pinned (OpenSpec.upto fnTellReadShareGroupStateRequestSpec)

/-- 'laws.FnTellInitializeShareGroupStateRequest', WHERE WHAT IT READS IS OF BULK AT MOST 1048576: true; the input reads as it did. -/
def fnTellInitializeShareGroupStateRequestUptoRow : OpenClaim := { program := "ytplpomlhhaccgaagreatdoor", sum := "1339a96d40ccba2d5f38c312bc3a004f4c92b5964cdbeb23e90c62afa0e2d074", func := "pub-mailsack/laws.FnTellInitializeShareGroupStateRequest", spec := "fnTellInitializeShareGroupStateRequest", inPlace := ["internal/reflectlite.ValueOf", "internal/reflectlite.Swapper", "(internal/reflectlite.Value).Len"], unfollowed := true, recurses := true, named := ["encoding/binary.BigEndian", "pub-mailsack/pub/kmsg/inner/kbin.ErrNotEnoughData"], loops := true, apart := false, laid := [("pub-mailsack/pub/kmsg/inner/kbin.ErrNotEnoughData", laid_pub_mailsack_pub_kmsg_inner_kbin_ErrNotEnoughData)], narrowed := true }
def FnTellInitializeShareGroupStateRequestUptoSaid : Prop := fnTellInitializeShareGroupStateRequestUptoRow.holds Tryz.pinned (OpenSpec.upto fnTellInitializeShareGroupStateRequestSpec)

/-- 'laws.FnTellReadShareGroupStateSummaryResponse', WHERE WHAT IT READS IS OF BULK AT MOST 1048576: true; the input reads as it did. -/
def fnTellReadShareGroupStateSummaryResponseUptoRow : OpenClaim := { program := "ytplpomlhhaccgaagreatdoor", sum := "1339a96d40ccba2d5f38c312bc3a004f4c92b5964cdbeb23e90c62afa0e2d074", func := "pub-mailsack/laws.FnTellReadShareGroupStateSummaryResponse", spec := "fnTellReadShareGroupStateSummaryResponse", inPlace := ["internal/reflectlite.ValueOf", "internal/reflectlite.Swapper", "(internal/reflectlite.Value).Len"], unfollowed := true, recurses := true, named := ["encoding/binary.BigEndian", "pub-mailsack/pub/kmsg/inner/kbin.ErrNotEnoughData"], loops := true, apart := false, laid := [("pub-mailsack/pub/kmsg/inner/kbin.ErrNotEnoughData", laid_pub_mailsack_pub_kmsg_inner_kbin_ErrNotEnoughData)], narrowed := true }
def FnTellReadShareGroupStateSummaryResponseUptoSaid : Prop := fnTellReadShareGroupStateSummaryResponseUptoRow.holds Tryz.pinned (OpenSpec.upto fnTellReadShareGroupStateSummaryResponseSpec)

/-- 'laws.FnTellFindCoordinatorResponse', WHERE WHAT IT READS IS OF BULK AT MOST 1048576: true; the input reads as it did. -/
def fnTellFindCoordinatorResponseUptoRow : OpenClaim := { program := "ytplpomlhhaccgaagreatdoor", sum := "1339a96d40ccba2d5f38c312bc3a004f4c92b5964cdbeb23e90c62afa0e2d074", func := "pub-mailsack/laws.FnTellFindCoordinatorResponse", spec := "fnTellFindCoordinatorResponse", inPlace := ["internal/reflectlite.ValueOf", "internal/reflectlite.Swapper", "(internal/reflectlite.Value).Len"], unfollowed := true, recurses := true, named := ["encoding/binary.BigEndian", "pub-mailsack/pub/kmsg/inner/kbin.ErrNotEnoughData"], loops := true, apart := false, laid := [("pub-mailsack/pub/kmsg/inner/kbin.ErrNotEnoughData", laid_pub_mailsack_pub_kmsg_inner_kbin_ErrNotEnoughData)], narrowed := true }
def FnTellFindCoordinatorResponseUptoSaid : Prop := fnTellFindCoordinatorResponseUptoRow.holds Tryz.pinned (OpenSpec.upto fnTellFindCoordinatorResponseSpec)

/-- 'laws.FnTellAlterPartitionAssignmentsResponse', WHERE WHAT IT READS IS OF BULK AT MOST 1048576: true; the input reads as it did. -/
def fnTellAlterPartitionAssignmentsResponseUptoRow : OpenClaim := { program := "ytplpomlhhaccgaagreatdoor", sum := "1339a96d40ccba2d5f38c312bc3a004f4c92b5964cdbeb23e90c62afa0e2d074", func := "pub-mailsack/laws.FnTellAlterPartitionAssignmentsResponse", spec := "fnTellAlterPartitionAssignmentsResponse", inPlace := ["internal/reflectlite.ValueOf", "internal/reflectlite.Swapper", "(internal/reflectlite.Value).Len"], unfollowed := true, recurses := true, named := ["encoding/binary.BigEndian", "pub-mailsack/pub/kmsg/inner/kbin.ErrNotEnoughData"], loops := true, apart := false, laid := [("pub-mailsack/pub/kmsg/inner/kbin.ErrNotEnoughData", laid_pub_mailsack_pub_kmsg_inner_kbin_ErrNotEnoughData)], narrowed := true }
def FnTellAlterPartitionAssignmentsResponseUptoSaid : Prop := fnTellAlterPartitionAssignmentsResponseUptoRow.holds Tryz.pinned (OpenSpec.upto fnTellAlterPartitionAssignmentsResponseSpec)

end Rows
end Go.Proofs.YtplpomlhhaccgaaGreatDoor
