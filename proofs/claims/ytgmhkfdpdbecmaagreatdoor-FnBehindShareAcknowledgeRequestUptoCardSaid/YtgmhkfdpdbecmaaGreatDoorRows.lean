/-
  NARROWER THAN 'FOR EVERY INPUT', by the rows' own cells (each row's printed sentence says how): FnBehindDeleteGroupsRequest: loops, laid · FnBehindCreateACLsResponse: loops, laid · FnBehindDeleteShareGroupStateRequest: loops, laid · FnBehindElectLeadersRequest: loops, laid · FnBehindDescribeTopicPartitionsRequest: loops, laid · FnBehindShareGroupHeartbeatRequest: loops, laid · FnBehindLeaderAndISRResponse: loops, laid · FnBehindAddRaftVoterRequest: loops, laid · FnBehindConsumerGroupHeartbeatResponse: loops, laid · FnBehindControllerRegistrationRequest: loops, laid · FnBehindShareAcknowledgeRequest: loops, laid.
  DERIVED. THE GIVEN ROWS OF THIS SEAT. 11 by the template 'for every input the law returns true; each argument reads behind the call as it read before'; 0 by the template 'total and deterministic' (their statements: YtgmhkfdpdbecmaaGreatDoorTotals.lean).
  GIVEN WITH THE SEED: the statements are not yours to turn. If you find one false, say at which input.
  Laid BY PROGRAM, IN A SANDBOX (cutbox-rows.mjs): the forced cells as the released guide's own fill.sh prints them over the translation 038d5e6ea643069b… (all of the seat's roots in one cut). By AI agents, Wed Nov 11 2026. No macro, syntax, notation, axiom, sorry.
-/
import Derived.Test.YtgmhkfdpdbecmaaGreatDoorChecked
import GoSem.Claim
import GoSem.ClaimJoined
import GoSem.ClaimMapViews
import Derived.JoinedTies
import Derived.KernelRfl
namespace Go.Proofs.YtgmhkfdpdbecmaaGreatDoor
/- THE CELL 'sum', in the pinned program and in every row, IS THE sha256 OF THE DUMP (.gsa) THAT YtgmhkfdpdbecmaaGreatDoorProg.lean LOADS. Nothing in Lean hashes anything: it is a label: what it is worth is what the hold of that sum in a sandbox is worth. -/
noncomputable def Tryz.pinned : Pinned := { name := "ytgmhkfdpdbecmaagreatdoor", sum := "038d5e6ea643069b95c64a8cecfca817cf255faea474bdd0f1879ec61c8b9bb5", checked := Tryz.checked }
namespace Rows
def none {H : Type} : Left H := { results := [], args := [] }

/- WHAT THE LISTED PACKAGE-LEVEL VARIABLES READ AS WHEN THE CALL BEGINS. Each datum BY PROGRAM (the guide's laid-datum.mjs) off the statement by which the dump's own 'gosem.cut.vars' lays the variable. In a bare row this is a premise. The card (YtgmhkfdpdbecmaaGreatDoorCards.lean) ties it to the program's text. -/
def laid_pub_mailsack_pub_kmsg_inner_kbin_ErrNotEnoughData {H : Type} : DataW H := .iface "*errors.errorString" (.ptr (.agg [.lit (.string [114, 101, 115, 112, 111, 110, 115, 101, 32, 100, 105, 100, 32, 110, 111, 116, 32, 99, 111, 110, 116, 97, 105, 110, 32, 101, 110, 111, 117, 103, 104, 32, 100, 97, 116, 97, 32, 116, 111, 32, 98, 101, 32, 118, 97, 108, 105, 100])]))

/-- 'laws.FnBehindDeleteGroupsRequest': WHATEVER THE INPUT: true; the input reads as it did. -/
def fnBehindDeleteGroupsRequestSpec : ChangeSpec := { name := "fnBehindDeleteGroupsRequest", fn := fun _ => fun
  | [d1, d2, d3] => { results := [.lit (.bool true)], args := [d1, d2, d3] }
  | _ => none }
def fnBehindDeleteGroupsRequestRow : OpenClaim := { program := "ytgmhkfdpdbecmaagreatdoor", sum := "038d5e6ea643069b95c64a8cecfca817cf255faea474bdd0f1879ec61c8b9bb5", func := "pub-mailsack/laws.FnBehindDeleteGroupsRequest", spec := "fnBehindDeleteGroupsRequest", inPlace := ["internal/reflectlite.ValueOf", "internal/reflectlite.Swapper", "(internal/reflectlite.Value).Len"], unfollowed := true, recurses := true, named := ["encoding/binary.BigEndian", "pub-mailsack/pub/kmsg/inner/kbin.ErrNotEnoughData"], loops := true, apart := false, laid := [("pub-mailsack/pub/kmsg/inner/kbin.ErrNotEnoughData", laid_pub_mailsack_pub_kmsg_inner_kbin_ErrNotEnoughData)] }
def FnBehindDeleteGroupsRequestSaid : Prop := fnBehindDeleteGroupsRequestRow.holds Tryz.pinned (OpenSpec.ofChange fnBehindDeleteGroupsRequestSpec)

/-- ITS FALSE NEIGHBOUR: 'it returns false'. Refute it at one input. -/
def fnBehindDeleteGroupsRequestWrong : ChangeSpec := { name := "fnBehindDeleteGroupsRequest", fn := fun _ => fun
  | [d1, d2, d3] => { results := [.lit (.bool false)], args := [d1, d2, d3] }
  | _ => none }
def FnBehindDeleteGroupsRequestWrongFalsely : Prop := fnBehindDeleteGroupsRequestRow.holds Tryz.pinned (OpenSpec.ofChange fnBehindDeleteGroupsRequestWrong)

/-- 'laws.FnBehindCreateACLsResponse': WHATEVER THE INPUT: true; the input reads as it did. -/
def fnBehindCreateACLsResponseSpec : ChangeSpec := { name := "fnBehindCreateACLsResponse", fn := fun _ => fun
  | [d1, d2, d3] => { results := [.lit (.bool true)], args := [d1, d2, d3] }
  | _ => none }
def fnBehindCreateACLsResponseRow : OpenClaim := { program := "ytgmhkfdpdbecmaagreatdoor", sum := "038d5e6ea643069b95c64a8cecfca817cf255faea474bdd0f1879ec61c8b9bb5", func := "pub-mailsack/laws.FnBehindCreateACLsResponse", spec := "fnBehindCreateACLsResponse", inPlace := ["internal/reflectlite.ValueOf", "internal/reflectlite.Swapper", "(internal/reflectlite.Value).Len"], unfollowed := true, recurses := true, named := ["encoding/binary.BigEndian", "pub-mailsack/pub/kmsg/inner/kbin.ErrNotEnoughData"], loops := true, apart := false, laid := [("pub-mailsack/pub/kmsg/inner/kbin.ErrNotEnoughData", laid_pub_mailsack_pub_kmsg_inner_kbin_ErrNotEnoughData)] }
def FnBehindCreateACLsResponseSaid : Prop := fnBehindCreateACLsResponseRow.holds Tryz.pinned (OpenSpec.ofChange fnBehindCreateACLsResponseSpec)

/-- ITS FALSE NEIGHBOUR: 'it returns false'. Refute it at one input. -/
def fnBehindCreateACLsResponseWrong : ChangeSpec := { name := "fnBehindCreateACLsResponse", fn := fun _ => fun
  | [d1, d2, d3] => { results := [.lit (.bool false)], args := [d1, d2, d3] }
  | _ => none }
def FnBehindCreateACLsResponseWrongFalsely : Prop := fnBehindCreateACLsResponseRow.holds Tryz.pinned (OpenSpec.ofChange fnBehindCreateACLsResponseWrong)

/-- 'laws.FnBehindDeleteShareGroupStateRequest': WHATEVER THE INPUT: true; the input reads as it did. -/
def fnBehindDeleteShareGroupStateRequestSpec : ChangeSpec := { name := "fnBehindDeleteShareGroupStateRequest", fn := fun _ => fun
  | [d1, d2, d3] => { results := [.lit (.bool true)], args := [d1, d2, d3] }
  | _ => none }
def fnBehindDeleteShareGroupStateRequestRow : OpenClaim := { program := "ytgmhkfdpdbecmaagreatdoor", sum := "038d5e6ea643069b95c64a8cecfca817cf255faea474bdd0f1879ec61c8b9bb5", func := "pub-mailsack/laws.FnBehindDeleteShareGroupStateRequest", spec := "fnBehindDeleteShareGroupStateRequest", inPlace := ["internal/reflectlite.ValueOf", "internal/reflectlite.Swapper", "(internal/reflectlite.Value).Len"], unfollowed := true, recurses := true, named := ["encoding/binary.BigEndian", "pub-mailsack/pub/kmsg/inner/kbin.ErrNotEnoughData"], loops := true, apart := false, laid := [("pub-mailsack/pub/kmsg/inner/kbin.ErrNotEnoughData", laid_pub_mailsack_pub_kmsg_inner_kbin_ErrNotEnoughData)] }
def FnBehindDeleteShareGroupStateRequestSaid : Prop := fnBehindDeleteShareGroupStateRequestRow.holds Tryz.pinned (OpenSpec.ofChange fnBehindDeleteShareGroupStateRequestSpec)

/-- ITS FALSE NEIGHBOUR: 'it returns false'. Refute it at one input. -/
def fnBehindDeleteShareGroupStateRequestWrong : ChangeSpec := { name := "fnBehindDeleteShareGroupStateRequest", fn := fun _ => fun
  | [d1, d2, d3] => { results := [.lit (.bool false)], args := [d1, d2, d3] }
  | _ => none }
def FnBehindDeleteShareGroupStateRequestWrongFalsely : Prop := fnBehindDeleteShareGroupStateRequestRow.holds Tryz.pinned (OpenSpec.ofChange fnBehindDeleteShareGroupStateRequestWrong)

/-- 'laws.FnBehindElectLeadersRequest': WHATEVER THE INPUT: true; the input reads as it did. -/
def fnBehindElectLeadersRequestSpec : ChangeSpec := { name := "fnBehindElectLeadersRequest", fn := fun _ => fun
  | [d1, d2, d3] => { results := [.lit (.bool true)], args := [d1, d2, d3] }
  | _ => none }
def fnBehindElectLeadersRequestRow : OpenClaim := { program := "ytgmhkfdpdbecmaagreatdoor", sum := "038d5e6ea643069b95c64a8cecfca817cf255faea474bdd0f1879ec61c8b9bb5", func := "pub-mailsack/laws.FnBehindElectLeadersRequest", spec := "fnBehindElectLeadersRequest", inPlace := ["internal/reflectlite.ValueOf", "internal/reflectlite.Swapper", "(internal/reflectlite.Value).Len"], unfollowed := true, recurses := true, named := ["encoding/binary.BigEndian", "pub-mailsack/pub/kmsg/inner/kbin.ErrNotEnoughData"], loops := true, apart := false, laid := [("pub-mailsack/pub/kmsg/inner/kbin.ErrNotEnoughData", laid_pub_mailsack_pub_kmsg_inner_kbin_ErrNotEnoughData)] }
def FnBehindElectLeadersRequestSaid : Prop := fnBehindElectLeadersRequestRow.holds Tryz.pinned (OpenSpec.ofChange fnBehindElectLeadersRequestSpec)

/-- ITS FALSE NEIGHBOUR: 'it returns false'. Refute it at one input. -/
def fnBehindElectLeadersRequestWrong : ChangeSpec := { name := "fnBehindElectLeadersRequest", fn := fun _ => fun
  | [d1, d2, d3] => { results := [.lit (.bool false)], args := [d1, d2, d3] }
  | _ => none }
def FnBehindElectLeadersRequestWrongFalsely : Prop := fnBehindElectLeadersRequestRow.holds Tryz.pinned (OpenSpec.ofChange fnBehindElectLeadersRequestWrong)

/-- 'laws.FnBehindDescribeTopicPartitionsRequest': WHATEVER THE INPUT: true; the input reads as it did. -/
def fnBehindDescribeTopicPartitionsRequestSpec : ChangeSpec := { name := "fnBehindDescribeTopicPartitionsRequest", fn := fun _ => fun
  | [d1, d2, d3] => { results := [.lit (.bool true)], args := [d1, d2, d3] }
  | _ => none }
def fnBehindDescribeTopicPartitionsRequestRow : OpenClaim := { program := "ytgmhkfdpdbecmaagreatdoor", sum := "038d5e6ea643069b95c64a8cecfca817cf255faea474bdd0f1879ec61c8b9bb5", func := "pub-mailsack/laws.FnBehindDescribeTopicPartitionsRequest", spec := "fnBehindDescribeTopicPartitionsRequest", inPlace := ["internal/reflectlite.ValueOf", "internal/reflectlite.Swapper", "(internal/reflectlite.Value).Len"], unfollowed := true, recurses := true, named := ["encoding/binary.BigEndian", "pub-mailsack/pub/kmsg/inner/kbin.ErrNotEnoughData"], loops := true, apart := false, laid := [("pub-mailsack/pub/kmsg/inner/kbin.ErrNotEnoughData", laid_pub_mailsack_pub_kmsg_inner_kbin_ErrNotEnoughData)] }
def FnBehindDescribeTopicPartitionsRequestSaid : Prop := fnBehindDescribeTopicPartitionsRequestRow.holds Tryz.pinned (OpenSpec.ofChange fnBehindDescribeTopicPartitionsRequestSpec)

/-- ITS FALSE NEIGHBOUR: 'it returns false'. Refute it at one input. -/
def fnBehindDescribeTopicPartitionsRequestWrong : ChangeSpec := { name := "fnBehindDescribeTopicPartitionsRequest", fn := fun _ => fun
  | [d1, d2, d3] => { results := [.lit (.bool false)], args := [d1, d2, d3] }
  | _ => none }
def FnBehindDescribeTopicPartitionsRequestWrongFalsely : Prop := fnBehindDescribeTopicPartitionsRequestRow.holds Tryz.pinned (OpenSpec.ofChange fnBehindDescribeTopicPartitionsRequestWrong)

/-- 'laws.FnBehindShareGroupHeartbeatRequest': WHATEVER THE INPUT: true; the input reads as it did. -/
def fnBehindShareGroupHeartbeatRequestSpec : ChangeSpec := { name := "fnBehindShareGroupHeartbeatRequest", fn := fun _ => fun
  | [d1, d2, d3] => { results := [.lit (.bool true)], args := [d1, d2, d3] }
  | _ => none }
def fnBehindShareGroupHeartbeatRequestRow : OpenClaim := { program := "ytgmhkfdpdbecmaagreatdoor", sum := "038d5e6ea643069b95c64a8cecfca817cf255faea474bdd0f1879ec61c8b9bb5", func := "pub-mailsack/laws.FnBehindShareGroupHeartbeatRequest", spec := "fnBehindShareGroupHeartbeatRequest", inPlace := ["internal/reflectlite.ValueOf", "internal/reflectlite.Swapper", "(internal/reflectlite.Value).Len"], unfollowed := true, recurses := true, named := ["encoding/binary.BigEndian", "pub-mailsack/pub/kmsg/inner/kbin.ErrNotEnoughData"], loops := true, apart := false, laid := [("pub-mailsack/pub/kmsg/inner/kbin.ErrNotEnoughData", laid_pub_mailsack_pub_kmsg_inner_kbin_ErrNotEnoughData)] }
def FnBehindShareGroupHeartbeatRequestSaid : Prop := fnBehindShareGroupHeartbeatRequestRow.holds Tryz.pinned (OpenSpec.ofChange fnBehindShareGroupHeartbeatRequestSpec)

/-- ITS FALSE NEIGHBOUR: 'it returns false'. Refute it at one input. -/
def fnBehindShareGroupHeartbeatRequestWrong : ChangeSpec := { name := "fnBehindShareGroupHeartbeatRequest", fn := fun _ => fun
  | [d1, d2, d3] => { results := [.lit (.bool false)], args := [d1, d2, d3] }
  | _ => none }
def FnBehindShareGroupHeartbeatRequestWrongFalsely : Prop := fnBehindShareGroupHeartbeatRequestRow.holds Tryz.pinned (OpenSpec.ofChange fnBehindShareGroupHeartbeatRequestWrong)

/-- 'laws.FnBehindLeaderAndISRResponse': WHATEVER THE INPUT: true; the input reads as it did. -/
def fnBehindLeaderAndISRResponseSpec : ChangeSpec := { name := "fnBehindLeaderAndISRResponse", fn := fun _ => fun
  | [d1, d2, d3] => { results := [.lit (.bool true)], args := [d1, d2, d3] }
  | _ => none }
def fnBehindLeaderAndISRResponseRow : OpenClaim := { program := "ytgmhkfdpdbecmaagreatdoor", sum := "038d5e6ea643069b95c64a8cecfca817cf255faea474bdd0f1879ec61c8b9bb5", func := "pub-mailsack/laws.FnBehindLeaderAndISRResponse", spec := "fnBehindLeaderAndISRResponse", inPlace := ["internal/reflectlite.ValueOf", "internal/reflectlite.Swapper", "(internal/reflectlite.Value).Len"], unfollowed := true, recurses := true, named := ["encoding/binary.BigEndian", "pub-mailsack/pub/kmsg/inner/kbin.ErrNotEnoughData"], loops := true, apart := false, laid := [("pub-mailsack/pub/kmsg/inner/kbin.ErrNotEnoughData", laid_pub_mailsack_pub_kmsg_inner_kbin_ErrNotEnoughData)] }
def FnBehindLeaderAndISRResponseSaid : Prop := fnBehindLeaderAndISRResponseRow.holds Tryz.pinned (OpenSpec.ofChange fnBehindLeaderAndISRResponseSpec)

/-- ITS FALSE NEIGHBOUR: 'it returns false'. Refute it at one input. -/
def fnBehindLeaderAndISRResponseWrong : ChangeSpec := { name := "fnBehindLeaderAndISRResponse", fn := fun _ => fun
  | [d1, d2, d3] => { results := [.lit (.bool false)], args := [d1, d2, d3] }
  | _ => none }
def FnBehindLeaderAndISRResponseWrongFalsely : Prop := fnBehindLeaderAndISRResponseRow.holds Tryz.pinned (OpenSpec.ofChange fnBehindLeaderAndISRResponseWrong)

/-- 'laws.FnBehindAddRaftVoterRequest': WHATEVER THE INPUT: true; the input reads as it did. -/
def fnBehindAddRaftVoterRequestSpec : ChangeSpec := { name := "fnBehindAddRaftVoterRequest", fn := fun _ => fun
  | [d1, d2, d3] => { results := [.lit (.bool true)], args := [d1, d2, d3] }
  | _ => none }
def fnBehindAddRaftVoterRequestRow : OpenClaim := { program := "ytgmhkfdpdbecmaagreatdoor", sum := "038d5e6ea643069b95c64a8cecfca817cf255faea474bdd0f1879ec61c8b9bb5", func := "pub-mailsack/laws.FnBehindAddRaftVoterRequest", spec := "fnBehindAddRaftVoterRequest", inPlace := ["internal/reflectlite.ValueOf", "internal/reflectlite.Swapper", "(internal/reflectlite.Value).Len"], unfollowed := true, recurses := true, named := ["encoding/binary.BigEndian", "pub-mailsack/pub/kmsg/inner/kbin.ErrNotEnoughData"], loops := true, apart := false, laid := [("pub-mailsack/pub/kmsg/inner/kbin.ErrNotEnoughData", laid_pub_mailsack_pub_kmsg_inner_kbin_ErrNotEnoughData)] }
def FnBehindAddRaftVoterRequestSaid : Prop := fnBehindAddRaftVoterRequestRow.holds Tryz.pinned (OpenSpec.ofChange fnBehindAddRaftVoterRequestSpec)

/-- ITS FALSE NEIGHBOUR: 'it returns false'. Refute it at one input. -/
def fnBehindAddRaftVoterRequestWrong : ChangeSpec := { name := "fnBehindAddRaftVoterRequest", fn := fun _ => fun
  | [d1, d2, d3] => { results := [.lit (.bool false)], args := [d1, d2, d3] }
  | _ => none }
def FnBehindAddRaftVoterRequestWrongFalsely : Prop := fnBehindAddRaftVoterRequestRow.holds Tryz.pinned (OpenSpec.ofChange fnBehindAddRaftVoterRequestWrong)

/-- 'laws.FnBehindConsumerGroupHeartbeatResponse': WHATEVER THE INPUT: true; the input reads as it did. -/
def fnBehindConsumerGroupHeartbeatResponseSpec : ChangeSpec := { name := "fnBehindConsumerGroupHeartbeatResponse", fn := fun _ => fun
  | [d1, d2, d3] => { results := [.lit (.bool true)], args := [d1, d2, d3] }
  | _ => none }
def fnBehindConsumerGroupHeartbeatResponseRow : OpenClaim := { program := "ytgmhkfdpdbecmaagreatdoor", sum := "038d5e6ea643069b95c64a8cecfca817cf255faea474bdd0f1879ec61c8b9bb5", func := "pub-mailsack/laws.FnBehindConsumerGroupHeartbeatResponse", spec := "fnBehindConsumerGroupHeartbeatResponse", inPlace := ["internal/reflectlite.ValueOf", "internal/reflectlite.Swapper", "(internal/reflectlite.Value).Len"], unfollowed := true, recurses := true, named := ["encoding/binary.BigEndian", "pub-mailsack/pub/kmsg/inner/kbin.ErrNotEnoughData"], loops := true, apart := false, laid := [("pub-mailsack/pub/kmsg/inner/kbin.ErrNotEnoughData", laid_pub_mailsack_pub_kmsg_inner_kbin_ErrNotEnoughData)] }
def FnBehindConsumerGroupHeartbeatResponseSaid : Prop := fnBehindConsumerGroupHeartbeatResponseRow.holds Tryz.pinned (OpenSpec.ofChange fnBehindConsumerGroupHeartbeatResponseSpec)

/-- ITS FALSE NEIGHBOUR: 'it returns false'. Refute it at one input. -/
def fnBehindConsumerGroupHeartbeatResponseWrong : ChangeSpec := { name := "fnBehindConsumerGroupHeartbeatResponse", fn := fun _ => fun
  | [d1, d2, d3] => { results := [.lit (.bool false)], args := [d1, d2, d3] }
  | _ => none }
def FnBehindConsumerGroupHeartbeatResponseWrongFalsely : Prop := fnBehindConsumerGroupHeartbeatResponseRow.holds Tryz.pinned (OpenSpec.ofChange fnBehindConsumerGroupHeartbeatResponseWrong)

/-- 'laws.FnBehindControllerRegistrationRequest': WHATEVER THE INPUT: true; the input reads as it did. -/
def fnBehindControllerRegistrationRequestSpec : ChangeSpec := { name := "fnBehindControllerRegistrationRequest", fn := fun _ => fun
  | [d1, d2, d3] => { results := [.lit (.bool true)], args := [d1, d2, d3] }
  | _ => none }
def fnBehindControllerRegistrationRequestRow : OpenClaim := { program := "ytgmhkfdpdbecmaagreatdoor", sum := "038d5e6ea643069b95c64a8cecfca817cf255faea474bdd0f1879ec61c8b9bb5", func := "pub-mailsack/laws.FnBehindControllerRegistrationRequest", spec := "fnBehindControllerRegistrationRequest", inPlace := ["internal/reflectlite.ValueOf", "internal/reflectlite.Swapper", "(internal/reflectlite.Value).Len"], unfollowed := true, recurses := true, named := ["encoding/binary.BigEndian", "pub-mailsack/pub/kmsg/inner/kbin.ErrNotEnoughData"], loops := true, apart := false, laid := [("pub-mailsack/pub/kmsg/inner/kbin.ErrNotEnoughData", laid_pub_mailsack_pub_kmsg_inner_kbin_ErrNotEnoughData)] }
def FnBehindControllerRegistrationRequestSaid : Prop := fnBehindControllerRegistrationRequestRow.holds Tryz.pinned (OpenSpec.ofChange fnBehindControllerRegistrationRequestSpec)

/-- ITS FALSE NEIGHBOUR: 'it returns false'. Refute it at one input. -/
def fnBehindControllerRegistrationRequestWrong : ChangeSpec := { name := "fnBehindControllerRegistrationRequest", fn := fun _ => fun
  | [d1, d2, d3] => { results := [.lit (.bool false)], args := [d1, d2, d3] }
  | _ => none }
def FnBehindControllerRegistrationRequestWrongFalsely : Prop := fnBehindControllerRegistrationRequestRow.holds Tryz.pinned (OpenSpec.ofChange fnBehindControllerRegistrationRequestWrong)

/-- 'laws.FnBehindShareAcknowledgeRequest': WHATEVER THE INPUT: true; the input reads as it did. -/
def fnBehindShareAcknowledgeRequestSpec : ChangeSpec := { name := "fnBehindShareAcknowledgeRequest", fn := fun _ => fun
  | [d1, d2, d3] => { results := [.lit (.bool true)], args := [d1, d2, d3] }
  | _ => none }
def fnBehindShareAcknowledgeRequestRow : OpenClaim := { program := "ytgmhkfdpdbecmaagreatdoor", sum := "038d5e6ea643069b95c64a8cecfca817cf255faea474bdd0f1879ec61c8b9bb5", func := "pub-mailsack/laws.FnBehindShareAcknowledgeRequest", spec := "fnBehindShareAcknowledgeRequest", inPlace := ["internal/reflectlite.ValueOf", "internal/reflectlite.Swapper", "(internal/reflectlite.Value).Len"], unfollowed := true, recurses := true, named := ["encoding/binary.BigEndian", "pub-mailsack/pub/kmsg/inner/kbin.ErrNotEnoughData"], loops := true, apart := false, laid := [("pub-mailsack/pub/kmsg/inner/kbin.ErrNotEnoughData", laid_pub_mailsack_pub_kmsg_inner_kbin_ErrNotEnoughData)] }
def FnBehindShareAcknowledgeRequestSaid : Prop := fnBehindShareAcknowledgeRequestRow.holds Tryz.pinned (OpenSpec.ofChange fnBehindShareAcknowledgeRequestSpec)

/-- ITS FALSE NEIGHBOUR: 'it returns false'. Refute it at one input. -/
def fnBehindShareAcknowledgeRequestWrong : ChangeSpec := { name := "fnBehindShareAcknowledgeRequest", fn := fun _ => fun
  | [d1, d2, d3] => { results := [.lit (.bool false)], args := [d1, d2, d3] }
  | _ => none }
def FnBehindShareAcknowledgeRequestWrongFalsely : Prop := fnBehindShareAcknowledgeRequestRow.holds Tryz.pinned (OpenSpec.ofChange fnBehindShareAcknowledgeRequestWrong)

/- THE SECOND FORM. 'bulk': how many values and letters a reading holds, each counted each time it is reached (what is shared counts as often as it is met; a slice's spare places count too). A statement '..UptoSaid' is the law's where the arguments, and the package variables that the reading takes, are together of bulk at most 1048576: NARROWER than '..Said'. Prove '..Said' where nothing that the law and all that it calls make is longer than what came in: it says more and counts as full. Else prove '..UptoSaid'. A law counts once. -/
mutual
def uptoBulk {H : Type} : DataW H → Nat
  | .lit (.string bytes) => bytes.length + 1
  | .lit _ => 1
  | .nil => 1
  | .ptr d => uptoBulk d + 1
  | .slice elems spare => uptoBulkAll elems + uptoBulkAll spare + 1
  | .agg parts => uptoBulkAll parts + 1
  | .iface _ d => uptoBulk d + 1
  | .map entries => uptoBulkEntries entries + 1
  | .held _ => 1
def uptoBulkAll {H : Type} : List (DataW H) → Nat
  | [] => 0
  | d :: r => uptoBulk d + uptoBulkAll r
def uptoBulkEntries {H : Type} : List (Lit × DataW H) → Nat
  | [] => 0
  | x :: r => uptoBulkEntry x + uptoBulkEntries r
def uptoBulkEntry {H : Type} : Lit × DataW H → Nat
  | (.string bytes, d) => bytes.length + uptoBulk d + 1
  | (_, d) => uptoBulk d + 1
 end
def uptoSmall : (H : Type) → List (DataW H) → Bool := fun _ ds => decide (uptoBulkAll ds ≤ 1048576)
def OpenSpec.upto (s : _root_.Go.ChangeSpec) : _root_.Go.OpenSpec := { _root_.Go.OpenSpec.ofChange s with cond := some uptoSmall }

/-- 'laws.FnBehindDeleteGroupsRequest', WHERE WHAT IT READS IS OF BULK AT MOST 1048576: true; the input reads as it did. -/
def fnBehindDeleteGroupsRequestUptoRow : OpenClaim := { program := "ytgmhkfdpdbecmaagreatdoor", sum := "038d5e6ea643069b95c64a8cecfca817cf255faea474bdd0f1879ec61c8b9bb5", func := "pub-mailsack/laws.FnBehindDeleteGroupsRequest", spec := "fnBehindDeleteGroupsRequest", inPlace := ["internal/reflectlite.ValueOf", "internal/reflectlite.Swapper", "(internal/reflectlite.Value).Len"], unfollowed := true, recurses := true, named := ["encoding/binary.BigEndian", "pub-mailsack/pub/kmsg/inner/kbin.ErrNotEnoughData"], loops := true, apart := false, laid := [("pub-mailsack/pub/kmsg/inner/kbin.ErrNotEnoughData", laid_pub_mailsack_pub_kmsg_inner_kbin_ErrNotEnoughData)], narrowed := true }
def FnBehindDeleteGroupsRequestUptoSaid : Prop := fnBehindDeleteGroupsRequestUptoRow.holds Tryz.pinned (OpenSpec.upto fnBehindDeleteGroupsRequestSpec)

/-- 'laws.FnBehindCreateACLsResponse', WHERE WHAT IT READS IS OF BULK AT MOST 1048576: true; the input reads as it did. -/
def fnBehindCreateACLsResponseUptoRow : OpenClaim := { program := "ytgmhkfdpdbecmaagreatdoor", sum := "038d5e6ea643069b95c64a8cecfca817cf255faea474bdd0f1879ec61c8b9bb5", func := "pub-mailsack/laws.FnBehindCreateACLsResponse", spec := "fnBehindCreateACLsResponse", inPlace := ["internal/reflectlite.ValueOf", "internal/reflectlite.Swapper", "(internal/reflectlite.Value).Len"], unfollowed := true, recurses := true, named := ["encoding/binary.BigEndian", "pub-mailsack/pub/kmsg/inner/kbin.ErrNotEnoughData"], loops := true, apart := false, laid := [("pub-mailsack/pub/kmsg/inner/kbin.ErrNotEnoughData", laid_pub_mailsack_pub_kmsg_inner_kbin_ErrNotEnoughData)], narrowed := true }
def FnBehindCreateACLsResponseUptoSaid : Prop := fnBehindCreateACLsResponseUptoRow.holds Tryz.pinned (OpenSpec.upto fnBehindCreateACLsResponseSpec)

/-- 'laws.FnBehindDeleteShareGroupStateRequest', WHERE WHAT IT READS IS OF BULK AT MOST 1048576: true; the input reads as it did. -/
def fnBehindDeleteShareGroupStateRequestUptoRow : OpenClaim := { program := "ytgmhkfdpdbecmaagreatdoor", sum := "038d5e6ea643069b95c64a8cecfca817cf255faea474bdd0f1879ec61c8b9bb5", func := "pub-mailsack/laws.FnBehindDeleteShareGroupStateRequest", spec := "fnBehindDeleteShareGroupStateRequest", inPlace := ["internal/reflectlite.ValueOf", "internal/reflectlite.Swapper", "(internal/reflectlite.Value).Len"], unfollowed := true, recurses := true, named := ["encoding/binary.BigEndian", "pub-mailsack/pub/kmsg/inner/kbin.ErrNotEnoughData"], loops := true, apart := false, laid := [("pub-mailsack/pub/kmsg/inner/kbin.ErrNotEnoughData", laid_pub_mailsack_pub_kmsg_inner_kbin_ErrNotEnoughData)], narrowed := true }
def FnBehindDeleteShareGroupStateRequestUptoSaid : Prop := fnBehindDeleteShareGroupStateRequestUptoRow.holds Tryz.pinned (OpenSpec.upto fnBehindDeleteShareGroupStateRequestSpec)

/-- 'laws.FnBehindElectLeadersRequest', WHERE WHAT IT READS IS OF BULK AT MOST 1048576: true; the input reads as it did. -/
def fnBehindElectLeadersRequestUptoRow : OpenClaim := { program := "ytgmhkfdpdbecmaagreatdoor", sum := "038d5e6ea643069b95c64a8cecfca817cf255faea474bdd0f1879ec61c8b9bb5", func := "pub-mailsack/laws.FnBehindElectLeadersRequest", spec := "fnBehindElectLeadersRequest", inPlace := ["internal/reflectlite.ValueOf", "internal/reflectlite.Swapper", "(internal/reflectlite.Value).Len"], unfollowed := true, recurses := true, named := ["encoding/binary.BigEndian", "pub-mailsack/pub/kmsg/inner/kbin.ErrNotEnoughData"], loops := true, apart := false, laid := [("pub-mailsack/pub/kmsg/inner/kbin.ErrNotEnoughData", laid_pub_mailsack_pub_kmsg_inner_kbin_ErrNotEnoughData)], narrowed := true }
def FnBehindElectLeadersRequestUptoSaid : Prop := fnBehindElectLeadersRequestUptoRow.holds Tryz.pinned (OpenSpec.upto fnBehindElectLeadersRequestSpec)

/-- 'laws.FnBehindDescribeTopicPartitionsRequest', WHERE WHAT IT READS IS OF BULK AT MOST 1048576: true; the input reads as it did. -/
def fnBehindDescribeTopicPartitionsRequestUptoRow : OpenClaim := { program := "ytgmhkfdpdbecmaagreatdoor", sum := "038d5e6ea643069b95c64a8cecfca817cf255faea474bdd0f1879ec61c8b9bb5", func := "pub-mailsack/laws.FnBehindDescribeTopicPartitionsRequest", spec := "fnBehindDescribeTopicPartitionsRequest", inPlace := ["internal/reflectlite.ValueOf", "internal/reflectlite.Swapper", "(internal/reflectlite.Value).Len"], unfollowed := true, recurses := true, named := ["encoding/binary.BigEndian", "pub-mailsack/pub/kmsg/inner/kbin.ErrNotEnoughData"], loops := true, apart := false, laid := [("pub-mailsack/pub/kmsg/inner/kbin.ErrNotEnoughData", laid_pub_mailsack_pub_kmsg_inner_kbin_ErrNotEnoughData)], narrowed := true }
def FnBehindDescribeTopicPartitionsRequestUptoSaid : Prop := fnBehindDescribeTopicPartitionsRequestUptoRow.holds Tryz.pinned (OpenSpec.upto fnBehindDescribeTopicPartitionsRequestSpec)

/-- 'laws.FnBehindShareGroupHeartbeatRequest', WHERE WHAT IT READS IS OF BULK AT MOST 1048576: true; the input reads as it did. -/
def fnBehindShareGroupHeartbeatRequestUptoRow : OpenClaim := { program := "ytgmhkfdpdbecmaagreatdoor", sum := "038d5e6ea643069b95c64a8cecfca817cf255faea474bdd0f1879ec61c8b9bb5", func := "pub-mailsack/laws.FnBehindShareGroupHeartbeatRequest", spec := "fnBehindShareGroupHeartbeatRequest", inPlace := ["internal/reflectlite.ValueOf", "internal/reflectlite.Swapper", "(internal/reflectlite.Value).Len"], unfollowed := true, recurses := true, named := ["encoding/binary.BigEndian", "pub-mailsack/pub/kmsg/inner/kbin.ErrNotEnoughData"], loops := true, apart := false, laid := [("pub-mailsack/pub/kmsg/inner/kbin.ErrNotEnoughData", laid_pub_mailsack_pub_kmsg_inner_kbin_ErrNotEnoughData)], narrowed := true }
def FnBehindShareGroupHeartbeatRequestUptoSaid : Prop := fnBehindShareGroupHeartbeatRequestUptoRow.holds Tryz.pinned (OpenSpec.upto fnBehindShareGroupHeartbeatRequestSpec)

/-- 'laws.FnBehindLeaderAndISRResponse', WHERE WHAT IT READS IS OF BULK AT MOST 1048576: true; the input reads as it did. -/
def fnBehindLeaderAndISRResponseUptoRow : OpenClaim := { program := "ytgmhkfdpdbecmaagreatdoor", sum := "038d5e6ea643069b95c64a8cecfca817cf255faea474bdd0f1879ec61c8b9bb5", func := "pub-mailsack/laws.FnBehindLeaderAndISRResponse", spec := "fnBehindLeaderAndISRResponse", inPlace := ["internal/reflectlite.ValueOf", "internal/reflectlite.Swapper", "(internal/reflectlite.Value).Len"], unfollowed := true, recurses := true, named := ["encoding/binary.BigEndian", "pub-mailsack/pub/kmsg/inner/kbin.ErrNotEnoughData"], loops := true, apart := false, laid := [("pub-mailsack/pub/kmsg/inner/kbin.ErrNotEnoughData", laid_pub_mailsack_pub_kmsg_inner_kbin_ErrNotEnoughData)], narrowed := true }
def FnBehindLeaderAndISRResponseUptoSaid : Prop := fnBehindLeaderAndISRResponseUptoRow.holds Tryz.pinned (OpenSpec.upto fnBehindLeaderAndISRResponseSpec)

/-- 'laws.FnBehindAddRaftVoterRequest', WHERE WHAT IT READS IS OF BULK AT MOST 1048576: true; the input reads as it did. -/
def fnBehindAddRaftVoterRequestUptoRow : OpenClaim := { program := "ytgmhkfdpdbecmaagreatdoor", sum := "038d5e6ea643069b95c64a8cecfca817cf255faea474bdd0f1879ec61c8b9bb5", func := "pub-mailsack/laws.FnBehindAddRaftVoterRequest", spec := "fnBehindAddRaftVoterRequest", inPlace := ["internal/reflectlite.ValueOf", "internal/reflectlite.Swapper", "(internal/reflectlite.Value).Len"], unfollowed := true, recurses := true, named := ["encoding/binary.BigEndian", "pub-mailsack/pub/kmsg/inner/kbin.ErrNotEnoughData"], loops := true, apart := false, laid := [("pub-mailsack/pub/kmsg/inner/kbin.ErrNotEnoughData", laid_pub_mailsack_pub_kmsg_inner_kbin_ErrNotEnoughData)], narrowed := true }
def FnBehindAddRaftVoterRequestUptoSaid : Prop := fnBehindAddRaftVoterRequestUptoRow.holds Tryz.pinned (OpenSpec.upto fnBehindAddRaftVoterRequestSpec)

/-- 'laws.FnBehindConsumerGroupHeartbeatResponse', WHERE WHAT IT READS IS OF BULK AT MOST 1048576: true; the input reads as it did. -/
def fnBehindConsumerGroupHeartbeatResponseUptoRow : OpenClaim := { program := "ytgmhkfdpdbecmaagreatdoor", sum := "038d5e6ea643069b95c64a8cecfca817cf255faea474bdd0f1879ec61c8b9bb5", func := "pub-mailsack/laws.FnBehindConsumerGroupHeartbeatResponse", spec := "fnBehindConsumerGroupHeartbeatResponse", inPlace := ["internal/reflectlite.ValueOf", "internal/reflectlite.Swapper", "(internal/reflectlite.Value).Len"], unfollowed := true, recurses := true, named := ["encoding/binary.BigEndian", "pub-mailsack/pub/kmsg/inner/kbin.ErrNotEnoughData"], loops := true, apart := false, laid := [("pub-mailsack/pub/kmsg/inner/kbin.ErrNotEnoughData", laid_pub_mailsack_pub_kmsg_inner_kbin_ErrNotEnoughData)], narrowed := true }
def FnBehindConsumerGroupHeartbeatResponseUptoSaid : Prop := fnBehindConsumerGroupHeartbeatResponseUptoRow.holds Tryz.pinned (OpenSpec.upto fnBehindConsumerGroupHeartbeatResponseSpec)

/-- 'laws.FnBehindControllerRegistrationRequest', WHERE WHAT IT READS IS OF BULK AT MOST 1048576: true; the input reads as it did. -/
def fnBehindControllerRegistrationRequestUptoRow : OpenClaim := { program := "ytgmhkfdpdbecmaagreatdoor", sum := "038d5e6ea643069b95c64a8cecfca817cf255faea474bdd0f1879ec61c8b9bb5", func := "pub-mailsack/laws.FnBehindControllerRegistrationRequest", spec := "fnBehindControllerRegistrationRequest", inPlace := ["internal/reflectlite.ValueOf", "internal/reflectlite.Swapper", "(internal/reflectlite.Value).Len"], unfollowed := true, recurses := true, named := ["encoding/binary.BigEndian", "pub-mailsack/pub/kmsg/inner/kbin.ErrNotEnoughData"], loops := true, apart := false, laid := [("pub-mailsack/pub/kmsg/inner/kbin.ErrNotEnoughData", laid_pub_mailsack_pub_kmsg_inner_kbin_ErrNotEnoughData)], narrowed := true }
def FnBehindControllerRegistrationRequestUptoSaid : Prop := fnBehindControllerRegistrationRequestUptoRow.holds Tryz.pinned (OpenSpec.upto fnBehindControllerRegistrationRequestSpec)

/-- 'laws.FnBehindShareAcknowledgeRequest', WHERE WHAT IT READS IS OF BULK AT MOST 1048576: true; the input reads as it did. -/
def fnBehindShareAcknowledgeRequestUptoRow : OpenClaim := { program := "ytgmhkfdpdbecmaagreatdoor", sum := "038d5e6ea643069b95c64a8cecfca817cf255faea474bdd0f1879ec61c8b9bb5", func := "pub-mailsack/laws.FnBehindShareAcknowledgeRequest", spec := "fnBehindShareAcknowledgeRequest", inPlace := ["internal/reflectlite.ValueOf", "internal/reflectlite.Swapper", "(internal/reflectlite.Value).Len"], unfollowed := true, recurses := true, named := ["encoding/binary.BigEndian", "pub-mailsack/pub/kmsg/inner/kbin.ErrNotEnoughData"], loops := true, apart := false, laid := [("pub-mailsack/pub/kmsg/inner/kbin.ErrNotEnoughData", laid_pub_mailsack_pub_kmsg_inner_kbin_ErrNotEnoughData)], narrowed := true }
def FnBehindShareAcknowledgeRequestUptoSaid : Prop := fnBehindShareAcknowledgeRequestUptoRow.holds Tryz.pinned (OpenSpec.upto fnBehindShareAcknowledgeRequestSpec)

end Rows
end Go.Proofs.YtgmhkfdpdbecmaaGreatDoor
