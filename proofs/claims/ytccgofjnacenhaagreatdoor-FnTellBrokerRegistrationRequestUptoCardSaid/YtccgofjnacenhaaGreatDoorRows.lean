/-
  NARROWER THAN 'FOR EVERY INPUT', by the rows' own cells (each row's printed sentence says how): FnTellDescribeClusterResponse: loops, laid · FnTellVoteRequest: loops, laid · FnTellBrokerRegistrationRequest: loops, laid · FnTellDescribeGroupsResponse: loops, laid · FnDefaultAssignReplicasToDirsRequest: loops, laid · FnDefaultCreatePartitionsRequest: loops, laid.
  DERIVED. THE GIVEN ROWS OF THIS SEAT. 6 by the template 'for every input the law returns true; each argument reads behind the call as it read before'; 0 by the template 'total and deterministic' (their statements: YtccgofjnacenhaaGreatDoorTotals.lean).
  GIVEN WITH THE SEED: the statements are not yours to turn. If you find one false, say at which input.
  Laid BY PROGRAM, IN A SANDBOX (cutbox-rows.mjs): the forced cells as the released guide's own fill.sh prints them over the translation dc76dc0fda86e204… (all of the seat's roots in one cut). By AI agents, Wed Nov 11 2026. No macro, syntax, notation, axiom, sorry.
-/
import Derived.Test.YtccgofjnacenhaaGreatDoorChecked
import GoSem.Claim
import GoSem.ClaimJoined
import GoSem.ClaimMapViews
import Derived.JoinedTies
import Derived.KernelRfl
namespace Go.Proofs.YtccgofjnacenhaaGreatDoor
/- THE CELL 'sum', in the pinned program and in every row, IS THE sha256 OF THE DUMP (.gsa) THAT YtccgofjnacenhaaGreatDoorProg.lean LOADS. Nothing in Lean hashes anything: it is a label: what it is worth is what the hold of that sum in a sandbox is worth. -/
noncomputable def Tryz.pinned : Pinned := { name := "ytccgofjnacenhaagreatdoor", sum := "dc76dc0fda86e2043dcd9802455f57a438f8e9ff69d805651ee105ad9dcfab3a", checked := Tryz.checked }
namespace Rows
def none {H : Type} : Left H := { results := [], args := [] }

/- WHAT THE LISTED PACKAGE-LEVEL VARIABLES READ AS WHEN THE CALL BEGINS. Each datum BY PROGRAM (the guide's laid-datum.mjs) off the statement by which the dump's own 'gosem.cut.vars' lays the variable. In a bare row this is a premise. The card (YtccgofjnacenhaaGreatDoorCards.lean) ties it to the program's text. -/
def laid_pub_mailsack_pub_kmsg_inner_kbin_ErrNotEnoughData {H : Type} : DataW H := .iface "*errors.errorString" (.ptr (.agg [.lit (.string [114, 101, 115, 112, 111, 110, 115, 101, 32, 100, 105, 100, 32, 110, 111, 116, 32, 99, 111, 110, 116, 97, 105, 110, 32, 101, 110, 111, 117, 103, 104, 32, 100, 97, 116, 97, 32, 116, 111, 32, 98, 101, 32, 118, 97, 108, 105, 100])]))

/-- 'laws.FnTellDescribeClusterResponse': WHATEVER THE INPUT: true; the input reads as it did. -/
def fnTellDescribeClusterResponseSpec : ChangeSpec := { name := "fnTellDescribeClusterResponse", fn := fun _ => fun
  | [d1, d2] => { results := [.lit (.bool true)], args := [d1, d2] }
  | _ => none }
def fnTellDescribeClusterResponseRow : OpenClaim := { program := "ytccgofjnacenhaagreatdoor", sum := "dc76dc0fda86e2043dcd9802455f57a438f8e9ff69d805651ee105ad9dcfab3a", func := "pub-mailsack/laws.FnTellDescribeClusterResponse", spec := "fnTellDescribeClusterResponse", inPlace := ["internal/reflectlite.ValueOf", "internal/reflectlite.Swapper", "(internal/reflectlite.Value).Len"], unfollowed := true, recurses := true, named := ["encoding/binary.BigEndian", "pub-mailsack/pub/kmsg/inner/kbin.ErrNotEnoughData"], loops := true, apart := false, laid := [("pub-mailsack/pub/kmsg/inner/kbin.ErrNotEnoughData", laid_pub_mailsack_pub_kmsg_inner_kbin_ErrNotEnoughData)] }
def FnTellDescribeClusterResponseSaid : Prop := fnTellDescribeClusterResponseRow.holds Tryz.pinned (OpenSpec.ofChange fnTellDescribeClusterResponseSpec)

/-- ITS FALSE NEIGHBOUR: 'it returns false'. Refute it at one input. -/
def fnTellDescribeClusterResponseWrong : ChangeSpec := { name := "fnTellDescribeClusterResponse", fn := fun _ => fun
  | [d1, d2] => { results := [.lit (.bool false)], args := [d1, d2] }
  | _ => none }
def FnTellDescribeClusterResponseWrongFalsely : Prop := fnTellDescribeClusterResponseRow.holds Tryz.pinned (OpenSpec.ofChange fnTellDescribeClusterResponseWrong)

/-- 'laws.FnTellVoteRequest': WHATEVER THE INPUT: true; the input reads as it did. -/
def fnTellVoteRequestSpec : ChangeSpec := { name := "fnTellVoteRequest", fn := fun _ => fun
  | [d1, d2] => { results := [.lit (.bool true)], args := [d1, d2] }
  | _ => none }
def fnTellVoteRequestRow : OpenClaim := { program := "ytccgofjnacenhaagreatdoor", sum := "dc76dc0fda86e2043dcd9802455f57a438f8e9ff69d805651ee105ad9dcfab3a", func := "pub-mailsack/laws.FnTellVoteRequest", spec := "fnTellVoteRequest", inPlace := ["internal/reflectlite.ValueOf", "internal/reflectlite.Swapper", "(internal/reflectlite.Value).Len"], unfollowed := true, recurses := true, named := ["encoding/binary.BigEndian", "pub-mailsack/pub/kmsg/inner/kbin.ErrNotEnoughData"], loops := true, apart := false, laid := [("pub-mailsack/pub/kmsg/inner/kbin.ErrNotEnoughData", laid_pub_mailsack_pub_kmsg_inner_kbin_ErrNotEnoughData)] }
def FnTellVoteRequestSaid : Prop := fnTellVoteRequestRow.holds Tryz.pinned (OpenSpec.ofChange fnTellVoteRequestSpec)

/-- ITS FALSE NEIGHBOUR: 'it returns false'. Refute it at one input. -/
def fnTellVoteRequestWrong : ChangeSpec := { name := "fnTellVoteRequest", fn := fun _ => fun
  | [d1, d2] => { results := [.lit (.bool false)], args := [d1, d2] }
  | _ => none }
def FnTellVoteRequestWrongFalsely : Prop := fnTellVoteRequestRow.holds Tryz.pinned (OpenSpec.ofChange fnTellVoteRequestWrong)

/-- 'laws.FnTellBrokerRegistrationRequest': WHATEVER THE INPUT: true; the input reads as it did. -/
def fnTellBrokerRegistrationRequestSpec : ChangeSpec := { name := "fnTellBrokerRegistrationRequest", fn := fun _ => fun
  | [d1, d2] => { results := [.lit (.bool true)], args := [d1, d2] }
  | _ => none }
def fnTellBrokerRegistrationRequestRow : OpenClaim := { program := "ytccgofjnacenhaagreatdoor", sum := "dc76dc0fda86e2043dcd9802455f57a438f8e9ff69d805651ee105ad9dcfab3a", func := "pub-mailsack/laws.FnTellBrokerRegistrationRequest", spec := "fnTellBrokerRegistrationRequest", inPlace := ["internal/reflectlite.ValueOf", "internal/reflectlite.Swapper", "(internal/reflectlite.Value).Len"], unfollowed := true, recurses := true, named := ["encoding/binary.BigEndian", "pub-mailsack/pub/kmsg/inner/kbin.ErrNotEnoughData"], loops := true, apart := false, laid := [("pub-mailsack/pub/kmsg/inner/kbin.ErrNotEnoughData", laid_pub_mailsack_pub_kmsg_inner_kbin_ErrNotEnoughData)] }
def FnTellBrokerRegistrationRequestSaid : Prop := fnTellBrokerRegistrationRequestRow.holds Tryz.pinned (OpenSpec.ofChange fnTellBrokerRegistrationRequestSpec)

/-- ITS FALSE NEIGHBOUR: 'it returns false'. Refute it at one input. -/
def fnTellBrokerRegistrationRequestWrong : ChangeSpec := { name := "fnTellBrokerRegistrationRequest", fn := fun _ => fun
  | [d1, d2] => { results := [.lit (.bool false)], args := [d1, d2] }
  | _ => none }
def FnTellBrokerRegistrationRequestWrongFalsely : Prop := fnTellBrokerRegistrationRequestRow.holds Tryz.pinned (OpenSpec.ofChange fnTellBrokerRegistrationRequestWrong)

/-- 'laws.FnTellDescribeGroupsResponse': WHATEVER THE INPUT: true; the input reads as it did. -/
def fnTellDescribeGroupsResponseSpec : ChangeSpec := { name := "fnTellDescribeGroupsResponse", fn := fun _ => fun
  | [d1, d2] => { results := [.lit (.bool true)], args := [d1, d2] }
  | _ => none }
def fnTellDescribeGroupsResponseRow : OpenClaim := { program := "ytccgofjnacenhaagreatdoor", sum := "dc76dc0fda86e2043dcd9802455f57a438f8e9ff69d805651ee105ad9dcfab3a", func := "pub-mailsack/laws.FnTellDescribeGroupsResponse", spec := "fnTellDescribeGroupsResponse", inPlace := ["internal/reflectlite.ValueOf", "internal/reflectlite.Swapper", "(internal/reflectlite.Value).Len"], unfollowed := true, recurses := true, named := ["encoding/binary.BigEndian", "pub-mailsack/pub/kmsg/inner/kbin.ErrNotEnoughData"], loops := true, apart := false, laid := [("pub-mailsack/pub/kmsg/inner/kbin.ErrNotEnoughData", laid_pub_mailsack_pub_kmsg_inner_kbin_ErrNotEnoughData)] }
def FnTellDescribeGroupsResponseSaid : Prop := fnTellDescribeGroupsResponseRow.holds Tryz.pinned (OpenSpec.ofChange fnTellDescribeGroupsResponseSpec)

/-- ITS FALSE NEIGHBOUR: 'it returns false'. Refute it at one input. -/
def fnTellDescribeGroupsResponseWrong : ChangeSpec := { name := "fnTellDescribeGroupsResponse", fn := fun _ => fun
  | [d1, d2] => { results := [.lit (.bool false)], args := [d1, d2] }
  | _ => none }
def FnTellDescribeGroupsResponseWrongFalsely : Prop := fnTellDescribeGroupsResponseRow.holds Tryz.pinned (OpenSpec.ofChange fnTellDescribeGroupsResponseWrong)

/-- 'laws.FnDefaultAssignReplicasToDirsRequest': WHATEVER THE INPUT: true; the input reads as it did. -/
def fnDefaultAssignReplicasToDirsRequestSpec : ChangeSpec := { name := "fnDefaultAssignReplicasToDirsRequest", fn := fun _ => fun
  | [d1, d2] => { results := [.lit (.bool true)], args := [d1, d2] }
  | _ => none }
def fnDefaultAssignReplicasToDirsRequestRow : OpenClaim := { program := "ytccgofjnacenhaagreatdoor", sum := "dc76dc0fda86e2043dcd9802455f57a438f8e9ff69d805651ee105ad9dcfab3a", func := "pub-mailsack/laws.FnDefaultAssignReplicasToDirsRequest", spec := "fnDefaultAssignReplicasToDirsRequest", inPlace := ["internal/reflectlite.ValueOf", "internal/reflectlite.Swapper", "(internal/reflectlite.Value).Len"], unfollowed := true, recurses := true, named := ["encoding/binary.BigEndian", "pub-mailsack/pub/kmsg/inner/kbin.ErrNotEnoughData"], loops := true, apart := false, laid := [("pub-mailsack/pub/kmsg/inner/kbin.ErrNotEnoughData", laid_pub_mailsack_pub_kmsg_inner_kbin_ErrNotEnoughData)] }
def FnDefaultAssignReplicasToDirsRequestSaid : Prop := fnDefaultAssignReplicasToDirsRequestRow.holds Tryz.pinned (OpenSpec.ofChange fnDefaultAssignReplicasToDirsRequestSpec)

/-- ITS FALSE NEIGHBOUR: 'it returns false'. Refute it at one input. -/
def fnDefaultAssignReplicasToDirsRequestWrong : ChangeSpec := { name := "fnDefaultAssignReplicasToDirsRequest", fn := fun _ => fun
  | [d1, d2] => { results := [.lit (.bool false)], args := [d1, d2] }
  | _ => none }
def FnDefaultAssignReplicasToDirsRequestWrongFalsely : Prop := fnDefaultAssignReplicasToDirsRequestRow.holds Tryz.pinned (OpenSpec.ofChange fnDefaultAssignReplicasToDirsRequestWrong)

/-- 'laws.FnDefaultCreatePartitionsRequest': WHATEVER THE INPUT: true; the input reads as it did. -/
def fnDefaultCreatePartitionsRequestSpec : ChangeSpec := { name := "fnDefaultCreatePartitionsRequest", fn := fun _ => fun
  | [d1, d2] => { results := [.lit (.bool true)], args := [d1, d2] }
  | _ => none }
def fnDefaultCreatePartitionsRequestRow : OpenClaim := { program := "ytccgofjnacenhaagreatdoor", sum := "dc76dc0fda86e2043dcd9802455f57a438f8e9ff69d805651ee105ad9dcfab3a", func := "pub-mailsack/laws.FnDefaultCreatePartitionsRequest", spec := "fnDefaultCreatePartitionsRequest", inPlace := ["internal/reflectlite.ValueOf", "internal/reflectlite.Swapper", "(internal/reflectlite.Value).Len"], unfollowed := true, recurses := true, named := ["encoding/binary.BigEndian", "pub-mailsack/pub/kmsg/inner/kbin.ErrNotEnoughData"], loops := true, apart := false, laid := [("pub-mailsack/pub/kmsg/inner/kbin.ErrNotEnoughData", laid_pub_mailsack_pub_kmsg_inner_kbin_ErrNotEnoughData)] }
def FnDefaultCreatePartitionsRequestSaid : Prop := fnDefaultCreatePartitionsRequestRow.holds Tryz.pinned (OpenSpec.ofChange fnDefaultCreatePartitionsRequestSpec)

/-- ITS FALSE NEIGHBOUR: 'it returns false'. Refute it at one input. -/
def fnDefaultCreatePartitionsRequestWrong : ChangeSpec := { name := "fnDefaultCreatePartitionsRequest", fn := fun _ => fun
  | [d1, d2] => { results := [.lit (.bool false)], args := [d1, d2] }
  | _ => none }
def FnDefaultCreatePartitionsRequestWrongFalsely : Prop := fnDefaultCreatePartitionsRequestRow.holds Tryz.pinned (OpenSpec.ofChange fnDefaultCreatePartitionsRequestWrong)

/- THE SECOND FORM. 'bulk': how many values and letters a reading holds, each counted each time it is reached (what is shared counts as often as it is met; a slice's spare places count too). A statement '..UptoSaid' is the law's where the arguments, and the package variables that the reading takes, are together of bulk at most 1048576: NARROWER than '..Said'. Prove '..Said' where nothing that the law and all that it calls make is longer than what came in: it says more and counts as full. Else prove '..UptoSaid'. A law counts once. -/
mutual
def uptoBulk {H : Type} : DataW H → Nat
  | .lit (.string bytes) => bytes.length + 1
  | .lit _ => 1
  | .nil => 1
  | .ptr d => uptoBulk d + 1
  | .slice elems spare => uptoBulkAll elems + uptoBulkAll spare + 1
  | .agg parts => uptoBulkAll parts + 1
  | .iface _ d => uptoBulk d + 1
  | .map entries => uptoBulkEntries entries + 1
  | .held _ => 1
def uptoBulkAll {H : Type} : List (DataW H) → Nat
  | [] => 0
  | d :: r => uptoBulk d + uptoBulkAll r
def uptoBulkEntries {H : Type} : List (Lit × DataW H) → Nat
  | [] => 0
  | x :: r => uptoBulkEntry x + uptoBulkEntries r
def uptoBulkEntry {H : Type} : Lit × DataW H → Nat
  | (.string bytes, d) => bytes.length + uptoBulk d + 1
  | (_, d) => uptoBulk d + 1
 end
def uptoSmall : (H : Type) → List (DataW H) → Bool := fun _ ds => decide (uptoBulkAll ds ≤ 1048576)
def OpenSpec.upto (s : _root_.Go.ChangeSpec) : _root_.Go.OpenSpec := { _root_.Go.OpenSpec.ofChange s with cond := some uptoSmall }

/-- 'laws.FnTellDescribeClusterResponse', WHERE WHAT IT READS IS OF BULK AT MOST 1048576: true; the input reads as it did. -/
def fnTellDescribeClusterResponseUptoRow : OpenClaim := { program := "ytccgofjnacenhaagreatdoor", sum := "dc76dc0fda86e2043dcd9802455f57a438f8e9ff69d805651ee105ad9dcfab3a", func := "pub-mailsack/laws.FnTellDescribeClusterResponse", spec := "fnTellDescribeClusterResponse", inPlace := ["internal/reflectlite.ValueOf", "internal/reflectlite.Swapper", "(internal/reflectlite.Value).Len"], unfollowed := true, recurses := true, named := ["encoding/binary.BigEndian", "pub-mailsack/pub/kmsg/inner/kbin.ErrNotEnoughData"], loops := true, apart := false, laid := [("pub-mailsack/pub/kmsg/inner/kbin.ErrNotEnoughData", laid_pub_mailsack_pub_kmsg_inner_kbin_ErrNotEnoughData)], narrowed := true }
def FnTellDescribeClusterResponseUptoSaid : Prop := fnTellDescribeClusterResponseUptoRow.holds Tryz.pinned (OpenSpec.upto fnTellDescribeClusterResponseSpec)

/-- 'laws.FnTellVoteRequest', WHERE WHAT IT READS IS OF BULK AT MOST 1048576: true; the input reads as it did. -/
def fnTellVoteRequestUptoRow : OpenClaim := { program := "ytccgofjnacenhaagreatdoor", sum := "dc76dc0fda86e2043dcd9802455f57a438f8e9ff69d805651ee105ad9dcfab3a", func := "pub-mailsack/laws.FnTellVoteRequest", spec := "fnTellVoteRequest", inPlace := ["internal/reflectlite.ValueOf", "internal/reflectlite.Swapper", "(internal/reflectlite.Value).Len"], unfollowed := true, recurses := true, named := ["encoding/binary.BigEndian", "pub-mailsack/pub/kmsg/inner/kbin.ErrNotEnoughData"], loops := true, apart := false, laid := [("pub-mailsack/pub/kmsg/inner/kbin.ErrNotEnoughData", laid_pub_mailsack_pub_kmsg_inner_kbin_ErrNotEnoughData)], narrowed := true }
def FnTellVoteRequestUptoSaid : Prop := fnTellVoteRequestUptoRow.holds Tryz.pinned (OpenSpec.upto fnTellVoteRequestSpec)

/-- 'laws.FnTellBrokerRegistrationRequest', WHERE WHAT IT READS IS OF BULK AT MOST 1048576: true; the input reads as it did. -/
def fnTellBrokerRegistrationRequestUptoRow : OpenClaim := { program := "ytccgofjnacenhaagreatdoor", sum := "dc76dc0fda86e2043dcd9802455f57a438f8e9ff69d805651ee105ad9dcfab3a", func := "pub-mailsack/laws.FnTellBrokerRegistrationRequest", spec := "fnTellBrokerRegistrationRequest", inPlace := ["internal/reflectlite.ValueOf", "internal/reflectlite.Swapper", "(internal/reflectlite.Value).Len"], unfollowed := true, recurses := true, named := ["encoding/binary.BigEndian", "pub-mailsack/pub/kmsg/inner/kbin.ErrNotEnoughData"], loops := true, apart := false, laid := [("pub-mailsack/pub/kmsg/inner/kbin.ErrNotEnoughData", laid_pub_mailsack_pub_kmsg_inner_kbin_ErrNotEnoughData)], narrowed := true }
def FnTellBrokerRegistrationRequestUptoSaid : Prop := fnTellBrokerRegistrationRequestUptoRow.holds Tryz.pinned (OpenSpec.upto fnTellBrokerRegistrationRequestSpec)

/-- 'laws.FnTellDescribeGroupsResponse', WHERE WHAT IT READS IS OF BULK AT MOST 1048576: true; the input reads as it did. -/
def fnTellDescribeGroupsResponseUptoRow : OpenClaim := { program := "ytccgofjnacenhaagreatdoor", sum := "dc76dc0fda86e2043dcd9802455f57a438f8e9ff69d805651ee105ad9dcfab3a", func := "pub-mailsack/laws.FnTellDescribeGroupsResponse", spec := "fnTellDescribeGroupsResponse", inPlace := ["internal/reflectlite.ValueOf", "internal/reflectlite.Swapper", "(internal/reflectlite.Value).Len"], unfollowed := true, recurses := true, named := ["encoding/binary.BigEndian", "pub-mailsack/pub/kmsg/inner/kbin.ErrNotEnoughData"], loops := true, apart := false, laid := [("pub-mailsack/pub/kmsg/inner/kbin.ErrNotEnoughData", laid_pub_mailsack_pub_kmsg_inner_kbin_ErrNotEnoughData)], narrowed := true }
def FnTellDescribeGroupsResponseUptoSaid : Prop := fnTellDescribeGroupsResponseUptoRow.holds Tryz.pinned (OpenSpec.upto fnTellDescribeGroupsResponseSpec)

/-- 'laws.FnDefaultAssignReplicasToDirsRequest', WHERE WHAT IT READS IS OF BULK AT MOST 1048576: true; the input reads as it did. -/
def fnDefaultAssignReplicasToDirsRequestUptoRow : OpenClaim := { program := "ytccgofjnacenhaagreatdoor", sum := "dc76dc0fda86e2043dcd9802455f57a438f8e9ff69d805651ee105ad9dcfab3a", func := "pub-mailsack/laws.FnDefaultAssignReplicasToDirsRequest", spec := "fnDefaultAssignReplicasToDirsRequest", inPlace := ["internal/reflectlite.ValueOf", "internal/reflectlite.Swapper", "(internal/reflectlite.Value).Len"], unfollowed := true, recurses := true, named := ["encoding/binary.BigEndian", "pub-mailsack/pub/kmsg/inner/kbin.ErrNotEnoughData"], loops := true, apart := false, laid := [("pub-mailsack/pub/kmsg/inner/kbin.ErrNotEnoughData", laid_pub_mailsack_pub_kmsg_inner_kbin_ErrNotEnoughData)], narrowed := true }
def FnDefaultAssignReplicasToDirsRequestUptoSaid : Prop := fnDefaultAssignReplicasToDirsRequestUptoRow.holds Tryz.pinned (OpenSpec.upto fnDefaultAssignReplicasToDirsRequestSpec)

/-- 'laws.FnDefaultCreatePartitionsRequest', WHERE WHAT IT READS IS OF BULK AT MOST 1048576: true; the input reads as it did. -/
def fnDefaultCreatePartitionsRequestUptoRow : OpenClaim := { program := "ytccgofjnacenhaagreatdoor", sum := "dc76dc0fda86e2043dcd9802455f57a438f8e9ff69d805651ee105ad9dcfab3a", func := "pub-mailsack/laws.FnDefaultCreatePartitionsRequest", spec := "fnDefaultCreatePartitionsRequest", inPlace := ["internal/reflectlite.ValueOf", "internal/reflectlite.Swapper", "(internal/reflectlite.Value).Len"], unfollowed := true, recurses := true, named := ["encoding/binary.BigEndian", "pub-mailsack/pub/kmsg/inner/kbin.ErrNotEnoughData"], loops := true, apart := false, laid := [("pub-mailsack/pub/kmsg/inner/kbin.ErrNotEnoughData", laid_pub_mailsack_pub_kmsg_inner_kbin_ErrNotEnoughData)], narrowed := true }
def FnDefaultCreatePartitionsRequestUptoSaid : Prop := fnDefaultCreatePartitionsRequestUptoRow.holds Tryz.pinned (OpenSpec.upto fnDefaultCreatePartitionsRequestSpec)

end Rows
end Go.Proofs.YtccgofjnacenhaaGreatDoor
