/-
  NARROWER THAN 'FOR EVERY INPUT', by the rows' own cells (each row's printed sentence says how): FnBehindDescribeTopicPartitionsRequest: loops, laid · FnBehindConsumerGroupHeartbeatResponse: loops, laid.
  DERIVED. THE GIVEN ROWS OF THIS SEAT. 2 by the template 'for every input the law returns true; each argument reads behind the call as it read before'; 0 by the template 'total and deterministic' (their statements: YtgiejoemfbeaeaaGreatDoorTotals.lean).
  GIVEN WITH THE SEED: the statements are not yours to turn. If you find one false, say at which input.
  Laid BY PROGRAM, IN A SANDBOX (cutbox-rows.mjs): the forced cells as the released guide's own fill.sh prints them over the translation a2bc220c354c74ef… (all of the seat's roots in one cut). By AI agents, Wed Nov 11 2026. No macro, syntax, notation, axiom, sorry.
-/
import Derived.Test.YtgiejoemfbeaeaaGreatDoorChecked
import GoSem.Claim
import GoSem.ClaimJoined
import GoSem.ClaimMapViews
import Derived.JoinedTies
import Derived.KernelRfl
namespace Go.Proofs.YtgiejoemfbeaeaaGreatDoor
/- THE CELL 'sum', in the pinned program and in every row, IS THE sha256 OF THE DUMP (.gsa) THAT YtgiejoemfbeaeaaGreatDoorProg.lean LOADS. Nothing in Lean hashes anything: it is a label: what it is worth is what the hold of that sum in a sandbox is worth. -/
noncomputable def Tryz.pinned : Pinned := { name := "ytgiejoemfbeaeaagreatdoor", sum := "a2bc220c354c74ef03d4d024dd3b1798676b16a6c7577b0238850dc0e1b681da", checked := Tryz.checked }
namespace Rows
def none {H : Type} : Left H := { results := [], args := [] }

/- WHAT THE LISTED PACKAGE-LEVEL VARIABLES READ AS WHEN THE CALL BEGINS. Each datum BY PROGRAM (the guide's laid-datum.mjs) off the statement by which the dump's own 'gosem.cut.vars' lays the variable. In a bare row this is a premise. The card (YtgiejoemfbeaeaaGreatDoorCards.lean) ties it to the program's text. -/
def laid_pub_mailsack_pub_kmsg_inner_kbin_ErrNotEnoughData {H : Type} : DataW H := .iface "*errors.errorString" (.ptr (.agg [.lit (.string [114, 101, 115, 112, 111, 110, 115, 101, 32, 100, 105, 100, 32, 110, 111, 116, 32, 99, 111, 110, 116, 97, 105, 110, 32, 101, 110, 111, 117, 103, 104, 32, 100, 97, 116, 97, 32, 116, 111, 32, 98, 101, 32, 118, 97, 108, 105, 100])]))

/-- 'laws.FnBehindDescribeTopicPartitionsRequest': WHATEVER THE INPUT: true; the input reads as it did. -/
def fnBehindDescribeTopicPartitionsRequestSpec : ChangeSpec := { name := "fnBehindDescribeTopicPartitionsRequest", fn := fun _ => fun
  | [d1, d2, d3] => { results := [.lit (.bool true)], args := [d1, d2, d3] }
  | _ => none }
def fnBehindDescribeTopicPartitionsRequestRow : OpenClaim := { program := "ytgiejoemfbeaeaagreatdoor", sum := "a2bc220c354c74ef03d4d024dd3b1798676b16a6c7577b0238850dc0e1b681da", func := "pub-mailsack/laws.FnBehindDescribeTopicPartitionsRequest", spec := "fnBehindDescribeTopicPartitionsRequest", inPlace := ["internal/reflectlite.ValueOf", "internal/reflectlite.Swapper", "(internal/reflectlite.Value).Len"], unfollowed := true, recurses := true, named := ["encoding/binary.BigEndian", "pub-mailsack/pub/kmsg/inner/kbin.ErrNotEnoughData"], loops := true, apart := false, laid := [("pub-mailsack/pub/kmsg/inner/kbin.ErrNotEnoughData", laid_pub_mailsack_pub_kmsg_inner_kbin_ErrNotEnoughData)] }
def FnBehindDescribeTopicPartitionsRequestSaid : Prop := fnBehindDescribeTopicPartitionsRequestRow.holds Tryz.pinned (OpenSpec.ofChange fnBehindDescribeTopicPartitionsRequestSpec)

/-- ITS FALSE NEIGHBOUR: 'it returns false'. Refute it at one input. -/
def fnBehindDescribeTopicPartitionsRequestWrong : ChangeSpec := { name := "fnBehindDescribeTopicPartitionsRequest", fn := fun _ => fun
  | [d1, d2, d3] => { results := [.lit (.bool false)], args := [d1, d2, d3] }
  | _ => none }
def FnBehindDescribeTopicPartitionsRequestWrongFalsely : Prop := fnBehindDescribeTopicPartitionsRequestRow.holds Tryz.pinned (OpenSpec.ofChange fnBehindDescribeTopicPartitionsRequestWrong)

/-- 'laws.FnBehindConsumerGroupHeartbeatResponse': WHATEVER THE INPUT: true; the input reads as it did. -/
def fnBehindConsumerGroupHeartbeatResponseSpec : ChangeSpec := { name := "fnBehindConsumerGroupHeartbeatResponse", fn := fun _ => fun
  | [d1, d2, d3] => { results := [.lit (.bool true)], args := [d1, d2, d3] }
  | _ => none }
def fnBehindConsumerGroupHeartbeatResponseRow : OpenClaim := { program := "ytgiejoemfbeaeaagreatdoor", sum := "a2bc220c354c74ef03d4d024dd3b1798676b16a6c7577b0238850dc0e1b681da", func := "pub-mailsack/laws.FnBehindConsumerGroupHeartbeatResponse", spec := "fnBehindConsumerGroupHeartbeatResponse", inPlace := ["internal/reflectlite.ValueOf", "internal/reflectlite.Swapper", "(internal/reflectlite.Value).Len"], unfollowed := true, recurses := true, named := ["encoding/binary.BigEndian", "pub-mailsack/pub/kmsg/inner/kbin.ErrNotEnoughData"], loops := true, apart := false, laid := [("pub-mailsack/pub/kmsg/inner/kbin.ErrNotEnoughData", laid_pub_mailsack_pub_kmsg_inner_kbin_ErrNotEnoughData)] }
def FnBehindConsumerGroupHeartbeatResponseSaid : Prop := fnBehindConsumerGroupHeartbeatResponseRow.holds Tryz.pinned (OpenSpec.ofChange fnBehindConsumerGroupHeartbeatResponseSpec)

/-- ITS FALSE NEIGHBOUR: 'it returns false'. Refute it at one input. -/
def fnBehindConsumerGroupHeartbeatResponseWrong : ChangeSpec := { name := "fnBehindConsumerGroupHeartbeatResponse", fn := fun _ => fun
  | [d1, d2, d3] => { results := [.lit (.bool false)], args := [d1, d2, d3] }
  | _ => none }
def FnBehindConsumerGroupHeartbeatResponseWrongFalsely : Prop := fnBehindConsumerGroupHeartbeatResponseRow.holds Tryz.pinned (OpenSpec.ofChange fnBehindConsumerGroupHeartbeatResponseWrong)

/- THE SECOND FORM. 'bulk': how many values and letters a reading holds, each counted each time it is reached (what is shared counts as often as it is met; a slice's spare places count too). A statement '..UptoSaid' is the law's where the arguments, and the package variables that the reading takes, are together of bulk at most 1048576: NARROWER than '..Said'. Prove '..Said' where nothing that the law and all that it calls make is longer than what came in: it says more and counts as full. Else prove '..UptoSaid'. A law counts once. -/
mutual
def uptoBulk {H : Type} : DataW H → Nat
  | .lit (.string bytes) => bytes.length + 1
  | .lit _ => 1
  | .nil => 1
  | .ptr d => uptoBulk d + 1
  | .slice elems spare => uptoBulkAll elems + uptoBulkAll spare + 1
  | .agg parts => uptoBulkAll parts + 1
  | .iface _ d => uptoBulk d + 1
  | .map entries => uptoBulkEntries entries + 1
  | .held _ => 1
def uptoBulkAll {H : Type} : List (DataW H) → Nat
  | [] => 0
  | d :: r => uptoBulk d + uptoBulkAll r
def uptoBulkEntries {H : Type} : List (Lit × DataW H) → Nat
  | [] => 0
  | x :: r => uptoBulkEntry x + uptoBulkEntries r
def uptoBulkEntry {H : Type} : Lit × DataW H → Nat
  | (.string bytes, d) => bytes.length + uptoBulk d + 1
  | (_, d) => uptoBulk d + 1
 end
def uptoSmall : (H : Type) → List (DataW H) → Bool := fun _ ds => decide (uptoBulkAll ds ≤ 1048576)
def OpenSpec.upto (s : _root_.Go.ChangeSpec) : _root_.Go.OpenSpec := { _root_.Go.OpenSpec.ofChange s with cond := some uptoSmall }

/-- 'laws.FnBehindDescribeTopicPartitionsRequest', WHERE WHAT IT READS IS OF BULK AT MOST 1048576: true; the input reads as it did. -/
def fnBehindDescribeTopicPartitionsRequestUptoRow : OpenClaim := { program := "ytgiejoemfbeaeaagreatdoor", sum := "a2bc220c354c74ef03d4d024dd3b1798676b16a6c7577b0238850dc0e1b681da", func := "pub-mailsack/laws.FnBehindDescribeTopicPartitionsRequest", spec := "fnBehindDescribeTopicPartitionsRequest", inPlace := ["internal/reflectlite.ValueOf", "internal/reflectlite.Swapper", "(internal/reflectlite.Value).Len"], unfollowed := true, recurses := true, named := ["encoding/binary.BigEndian", "pub-mailsack/pub/kmsg/inner/kbin.ErrNotEnoughData"], loops := true, apart := false, laid := [("pub-mailsack/pub/kmsg/inner/kbin.ErrNotEnoughData", laid_pub_mailsack_pub_kmsg_inner_kbin_ErrNotEnoughData)], narrowed := true }
def FnBehindDescribeTopicPartitionsRequestUptoSaid : Prop := fnBehindDescribeTopicPartitionsRequestUptoRow.holds Tryz.pinned (OpenSpec.upto fnBehindDescribeTopicPartitionsRequestSpec)

/-- 'laws.FnBehindConsumerGroupHeartbeatResponse', WHERE WHAT IT READS IS OF BULK AT MOST 1048576: true; the input reads as it did. -/
def fnBehindConsumerGroupHeartbeatResponseUptoRow : OpenClaim := { program := "ytgiejoemfbeaeaagreatdoor", sum := "a2bc220c354c74ef03d4d024dd3b1798676b16a6c7577b0238850dc0e1b681da", func := "pub-mailsack/laws.FnBehindConsumerGroupHeartbeatResponse", spec := "fnBehindConsumerGroupHeartbeatResponse", inPlace := ["internal/reflectlite.ValueOf", "internal/reflectlite.Swapper", "(internal/reflectlite.Value).Len"], unfollowed := true, recurses := true, named := ["encoding/binary.BigEndian", "pub-mailsack/pub/kmsg/inner/kbin.ErrNotEnoughData"], loops := true, apart := false, laid := [("pub-mailsack/pub/kmsg/inner/kbin.ErrNotEnoughData", laid_pub_mailsack_pub_kmsg_inner_kbin_ErrNotEnoughData)], narrowed := true }
def FnBehindConsumerGroupHeartbeatResponseUptoSaid : Prop := fnBehindConsumerGroupHeartbeatResponseUptoRow.holds Tryz.pinned (OpenSpec.upto fnBehindConsumerGroupHeartbeatResponseSpec)

end Rows
end Go.Proofs.YtgiejoemfbeaeaaGreatDoor
