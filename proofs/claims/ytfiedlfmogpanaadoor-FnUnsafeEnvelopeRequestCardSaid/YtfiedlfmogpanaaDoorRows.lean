/-
  NARROWER THAN 'FOR EVERY INPUT', by the rows' own cells (each row's printed sentence says how): FnUnsafeExpireDelegationTokenResponse: laid · FnUnsafeRenewDelegationTokenRequest: laid · FnUnsafeEnvelopeRequest: laid · FnUnsafeHeartbeatRequest: laid · FnUnsafeSASLAuthenticateResponse: laid · FnUnsafeLeaderChangeMessage: laid · FnUnsafeDescribeProducersRequest: laid · FnUnsafeUpdateFeaturesRequest: laid · FnUnsafeOffsetForLeaderEpochRequest: laid · FnUnsafeDeleteRecordsResponse: laid.
  DERIVED. THE GIVEN ROWS OF THIS SEAT. 10 by the template 'for every input the law returns true; each argument reads behind the call as it read before'; 0 by the template 'total and deterministic' (their statements: YtfiedlfmogpanaaDoorTotals.lean).
  GIVEN WITH THE SEED: the statements are not yours to turn. If you find one false, say at which input.
  Laid BY PROGRAM, IN A SANDBOX (cutbox-rows.mjs): the forced cells as the released guide's own fill.sh prints them over the translation 8d7c476b2ab7aeed… (all of the seat's roots in one cut). By AI agents, Wed Nov 11 2026. No macro, syntax, notation, axiom, sorry.
-/
import Derived.Test.YtfiedlfmogpanaaDoorChecked
import GoSem.Claim
import GoSem.ClaimJoined
import GoSem.ClaimMapViews
import Derived.JoinedTies
import Derived.KernelRfl
namespace Go.Proofs.YtfiedlfmogpanaaDoor
/- THE CELL 'sum', in the pinned program and in every row, IS THE sha256 OF THE DUMP (.gsa) THAT YtfiedlfmogpanaaDoorProg.lean LOADS. Nothing in Lean hashes anything: it is a label: what it is worth is what the hold of that sum in a sandbox is worth. -/
noncomputable def Tryd.pinned : Pinned := { name := "ytfiedlfmogpanaadoor", sum := "8d7c476b2ab7aeed9b33f09e81c7845e061f9dc2ac79f75e16de7e3511ba7ba1", checked := Tryd.checked }
namespace Rows
def none {H : Type} : Left H := { results := [], args := [] }

/- WHAT THE LISTED PACKAGE-LEVEL VARIABLES READ AS WHEN THE CALL BEGINS. Each datum BY PROGRAM (the guide's laid-datum.mjs) off the statement by which the dump's own 'gosem.cut.vars' lays the variable. In a bare row this is a premise. The card (YtfiedlfmogpanaaDoorCards.lean) ties it to the program's text. -/
def laid_pub_mailsack_pub_kmsg_inner_kbin_ErrNotEnoughData {H : Type} : DataW H := .iface "*errors.errorString" (.ptr (.agg [.lit (.string [114, 101, 115, 112, 111, 110, 115, 101, 32, 100, 105, 100, 32, 110, 111, 116, 32, 99, 111, 110, 116, 97, 105, 110, 32, 101, 110, 111, 117, 103, 104, 32, 100, 97, 116, 97, 32, 116, 111, 32, 98, 101, 32, 118, 97, 108, 105, 100])]))

/-- 'laws.FnUnsafeExpireDelegationTokenResponse': WHATEVER THE INPUT: true; the input reads as it did. -/
def fnUnsafeExpireDelegationTokenResponseSpec : ChangeSpec := { name := "fnUnsafeExpireDelegationTokenResponse", fn := fun _ => fun
  | [d1, d2] => { results := [.lit (.bool true)], args := [d1, d2] }
  | _ => none }
def fnUnsafeExpireDelegationTokenResponseRow : OpenClaim := { program := "ytfiedlfmogpanaadoor", sum := "8d7c476b2ab7aeed9b33f09e81c7845e061f9dc2ac79f75e16de7e3511ba7ba1", func := "pub-mailsack/laws.FnUnsafeExpireDelegationTokenResponse", spec := "fnUnsafeExpireDelegationTokenResponse", inPlace := ["internal/reflectlite.ValueOf", "internal/reflectlite.Swapper", "(internal/reflectlite.Value).Len"], unfollowed := true, recurses := true, named := ["encoding/binary.BigEndian", "pub-mailsack/pub/kmsg/inner/kbin.ErrNotEnoughData"], apart := false, laid := [("pub-mailsack/pub/kmsg/inner/kbin.ErrNotEnoughData", laid_pub_mailsack_pub_kmsg_inner_kbin_ErrNotEnoughData)] }
def FnUnsafeExpireDelegationTokenResponseSaid : Prop := fnUnsafeExpireDelegationTokenResponseRow.holds Tryd.pinned (OpenSpec.ofChange fnUnsafeExpireDelegationTokenResponseSpec)

/-- ITS FALSE NEIGHBOUR: 'it returns false'. Refute it at one input. -/
def fnUnsafeExpireDelegationTokenResponseWrong : ChangeSpec := { name := "fnUnsafeExpireDelegationTokenResponse", fn := fun _ => fun
  | [d1, d2] => { results := [.lit (.bool false)], args := [d1, d2] }
  | _ => none }
def FnUnsafeExpireDelegationTokenResponseWrongFalsely : Prop := fnUnsafeExpireDelegationTokenResponseRow.holds Tryd.pinned (OpenSpec.ofChange fnUnsafeExpireDelegationTokenResponseWrong)

/-- 'laws.FnUnsafeRenewDelegationTokenRequest': WHATEVER THE INPUT: true; the input reads as it did. -/
def fnUnsafeRenewDelegationTokenRequestSpec : ChangeSpec := { name := "fnUnsafeRenewDelegationTokenRequest", fn := fun _ => fun
  | [d1, d2] => { results := [.lit (.bool true)], args := [d1, d2] }
  | _ => none }
def fnUnsafeRenewDelegationTokenRequestRow : OpenClaim := { program := "ytfiedlfmogpanaadoor", sum := "8d7c476b2ab7aeed9b33f09e81c7845e061f9dc2ac79f75e16de7e3511ba7ba1", func := "pub-mailsack/laws.FnUnsafeRenewDelegationTokenRequest", spec := "fnUnsafeRenewDelegationTokenRequest", inPlace := ["internal/reflectlite.ValueOf", "internal/reflectlite.Swapper", "(internal/reflectlite.Value).Len"], unfollowed := true, recurses := true, named := ["encoding/binary.BigEndian", "pub-mailsack/pub/kmsg/inner/kbin.ErrNotEnoughData"], apart := false, laid := [("pub-mailsack/pub/kmsg/inner/kbin.ErrNotEnoughData", laid_pub_mailsack_pub_kmsg_inner_kbin_ErrNotEnoughData)] }
def FnUnsafeRenewDelegationTokenRequestSaid : Prop := fnUnsafeRenewDelegationTokenRequestRow.holds Tryd.pinned (OpenSpec.ofChange fnUnsafeRenewDelegationTokenRequestSpec)

/-- ITS FALSE NEIGHBOUR: 'it returns false'. Refute it at one input. -/
def fnUnsafeRenewDelegationTokenRequestWrong : ChangeSpec := { name := "fnUnsafeRenewDelegationTokenRequest", fn := fun _ => fun
  | [d1, d2] => { results := [.lit (.bool false)], args := [d1, d2] }
  | _ => none }
def FnUnsafeRenewDelegationTokenRequestWrongFalsely : Prop := fnUnsafeRenewDelegationTokenRequestRow.holds Tryd.pinned (OpenSpec.ofChange fnUnsafeRenewDelegationTokenRequestWrong)

/-- 'laws.FnUnsafeEnvelopeRequest': WHATEVER THE INPUT: true; the input reads as it did. -/
def fnUnsafeEnvelopeRequestSpec : ChangeSpec := { name := "fnUnsafeEnvelopeRequest", fn := fun _ => fun
  | [d1, d2] => { results := [.lit (.bool true)], args := [d1, d2] }
  | _ => none }
def fnUnsafeEnvelopeRequestRow : OpenClaim := { program := "ytfiedlfmogpanaadoor", sum := "8d7c476b2ab7aeed9b33f09e81c7845e061f9dc2ac79f75e16de7e3511ba7ba1", func := "pub-mailsack/laws.FnUnsafeEnvelopeRequest", spec := "fnUnsafeEnvelopeRequest", inPlace := ["internal/reflectlite.ValueOf", "internal/reflectlite.Swapper", "(internal/reflectlite.Value).Len"], unfollowed := true, recurses := true, named := ["encoding/binary.BigEndian", "pub-mailsack/pub/kmsg/inner/kbin.ErrNotEnoughData"], apart := false, laid := [("pub-mailsack/pub/kmsg/inner/kbin.ErrNotEnoughData", laid_pub_mailsack_pub_kmsg_inner_kbin_ErrNotEnoughData)] }
def FnUnsafeEnvelopeRequestSaid : Prop := fnUnsafeEnvelopeRequestRow.holds Tryd.pinned (OpenSpec.ofChange fnUnsafeEnvelopeRequestSpec)

/-- ITS FALSE NEIGHBOUR: 'it returns false'. Refute it at one input. -/
def fnUnsafeEnvelopeRequestWrong : ChangeSpec := { name := "fnUnsafeEnvelopeRequest", fn := fun _ => fun
  | [d1, d2] => { results := [.lit (.bool false)], args := [d1, d2] }
  | _ => none }
def FnUnsafeEnvelopeRequestWrongFalsely : Prop := fnUnsafeEnvelopeRequestRow.holds Tryd.pinned (OpenSpec.ofChange fnUnsafeEnvelopeRequestWrong)

/-- 'laws.FnUnsafeHeartbeatRequest': WHATEVER THE INPUT: true; the input reads as it did. -/
def fnUnsafeHeartbeatRequestSpec : ChangeSpec := { name := "fnUnsafeHeartbeatRequest", fn := fun _ => fun
  | [d1, d2] => { results := [.lit (.bool true)], args := [d1, d2] }
  | _ => none }
def fnUnsafeHeartbeatRequestRow : OpenClaim := { program := "ytfiedlfmogpanaadoor", sum := "8d7c476b2ab7aeed9b33f09e81c7845e061f9dc2ac79f75e16de7e3511ba7ba1", func := "pub-mailsack/laws.FnUnsafeHeartbeatRequest", spec := "fnUnsafeHeartbeatRequest", inPlace := ["internal/reflectlite.ValueOf", "internal/reflectlite.Swapper", "(internal/reflectlite.Value).Len"], unfollowed := true, recurses := true, named := ["encoding/binary.BigEndian", "pub-mailsack/pub/kmsg/inner/kbin.ErrNotEnoughData"], apart := false, laid := [("pub-mailsack/pub/kmsg/inner/kbin.ErrNotEnoughData", laid_pub_mailsack_pub_kmsg_inner_kbin_ErrNotEnoughData)] }
def FnUnsafeHeartbeatRequestSaid : Prop := fnUnsafeHeartbeatRequestRow.holds Tryd.pinned (OpenSpec.ofChange fnUnsafeHeartbeatRequestSpec)

/-- ITS FALSE NEIGHBOUR: 'it returns false'. Refute it at one input. -/
def fnUnsafeHeartbeatRequestWrong : ChangeSpec := { name := "fnUnsafeHeartbeatRequest", fn := fun _ => fun
  | [d1, d2] => { results := [.lit (.bool false)], args := [d1, d2] }
  | _ => none }
def FnUnsafeHeartbeatRequestWrongFalsely : Prop := fnUnsafeHeartbeatRequestRow.holds Tryd.pinned (OpenSpec.ofChange fnUnsafeHeartbeatRequestWrong)

/-- 'laws.FnUnsafeSASLAuthenticateResponse': WHATEVER THE INPUT: true; the input reads as it did. -/
def fnUnsafeSASLAuthenticateResponseSpec : ChangeSpec := { name := "fnUnsafeSASLAuthenticateResponse", fn := fun _ => fun
  | [d1, d2] => { results := [.lit (.bool true)], args := [d1, d2] }
  | _ => none }
def fnUnsafeSASLAuthenticateResponseRow : OpenClaim := { program := "ytfiedlfmogpanaadoor", sum := "8d7c476b2ab7aeed9b33f09e81c7845e061f9dc2ac79f75e16de7e3511ba7ba1", func := "pub-mailsack/laws.FnUnsafeSASLAuthenticateResponse", spec := "fnUnsafeSASLAuthenticateResponse", inPlace := ["internal/reflectlite.ValueOf", "internal/reflectlite.Swapper", "(internal/reflectlite.Value).Len"], unfollowed := true, recurses := true, named := ["encoding/binary.BigEndian", "pub-mailsack/pub/kmsg/inner/kbin.ErrNotEnoughData"], apart := false, laid := [("pub-mailsack/pub/kmsg/inner/kbin.ErrNotEnoughData", laid_pub_mailsack_pub_kmsg_inner_kbin_ErrNotEnoughData)] }
def FnUnsafeSASLAuthenticateResponseSaid : Prop := fnUnsafeSASLAuthenticateResponseRow.holds Tryd.pinned (OpenSpec.ofChange fnUnsafeSASLAuthenticateResponseSpec)

/-- ITS FALSE NEIGHBOUR: 'it returns false'. Refute it at one input. -/
def fnUnsafeSASLAuthenticateResponseWrong : ChangeSpec := { name := "fnUnsafeSASLAuthenticateResponse", fn := fun _ => fun
  | [d1, d2] => { results := [.lit (.bool false)], args := [d1, d2] }
  | _ => none }
def FnUnsafeSASLAuthenticateResponseWrongFalsely : Prop := fnUnsafeSASLAuthenticateResponseRow.holds Tryd.pinned (OpenSpec.ofChange fnUnsafeSASLAuthenticateResponseWrong)

/-- 'laws.FnUnsafeLeaderChangeMessage': WHATEVER THE INPUT: true; the input reads as it did. -/
def fnUnsafeLeaderChangeMessageSpec : ChangeSpec := { name := "fnUnsafeLeaderChangeMessage", fn := fun _ => fun
  | [d] => { results := [.lit (.bool true)], args := [d] }
  | _ => none }
def fnUnsafeLeaderChangeMessageRow : OpenClaim := { program := "ytfiedlfmogpanaadoor", sum := "8d7c476b2ab7aeed9b33f09e81c7845e061f9dc2ac79f75e16de7e3511ba7ba1", func := "pub-mailsack/laws.FnUnsafeLeaderChangeMessage", spec := "fnUnsafeLeaderChangeMessage", inPlace := ["internal/reflectlite.ValueOf", "internal/reflectlite.Swapper", "(internal/reflectlite.Value).Len"], unfollowed := true, recurses := true, named := ["encoding/binary.BigEndian", "pub-mailsack/pub/kmsg/inner/kbin.ErrNotEnoughData"], apart := false, laid := [("pub-mailsack/pub/kmsg/inner/kbin.ErrNotEnoughData", laid_pub_mailsack_pub_kmsg_inner_kbin_ErrNotEnoughData)] }
def FnUnsafeLeaderChangeMessageSaid : Prop := fnUnsafeLeaderChangeMessageRow.holds Tryd.pinned (OpenSpec.ofChange fnUnsafeLeaderChangeMessageSpec)

/-- ITS FALSE NEIGHBOUR: 'it returns false'. Refute it at one input. -/
def fnUnsafeLeaderChangeMessageWrong : ChangeSpec := { name := "fnUnsafeLeaderChangeMessage", fn := fun _ => fun
  | [d] => { results := [.lit (.bool false)], args := [d] }
  | _ => none }
def FnUnsafeLeaderChangeMessageWrongFalsely : Prop := fnUnsafeLeaderChangeMessageRow.holds Tryd.pinned (OpenSpec.ofChange fnUnsafeLeaderChangeMessageWrong)

/-- 'laws.FnUnsafeDescribeProducersRequest': WHATEVER THE INPUT: true; the input reads as it did. -/
def fnUnsafeDescribeProducersRequestSpec : ChangeSpec := { name := "fnUnsafeDescribeProducersRequest", fn := fun _ => fun
  | [d1, d2] => { results := [.lit (.bool true)], args := [d1, d2] }
  | _ => none }
def fnUnsafeDescribeProducersRequestRow : OpenClaim := { program := "ytfiedlfmogpanaadoor", sum := "8d7c476b2ab7aeed9b33f09e81c7845e061f9dc2ac79f75e16de7e3511ba7ba1", func := "pub-mailsack/laws.FnUnsafeDescribeProducersRequest", spec := "fnUnsafeDescribeProducersRequest", inPlace := ["internal/reflectlite.ValueOf", "internal/reflectlite.Swapper", "(internal/reflectlite.Value).Len"], unfollowed := true, recurses := true, named := ["encoding/binary.BigEndian", "pub-mailsack/pub/kmsg/inner/kbin.ErrNotEnoughData"], apart := false, laid := [("pub-mailsack/pub/kmsg/inner/kbin.ErrNotEnoughData", laid_pub_mailsack_pub_kmsg_inner_kbin_ErrNotEnoughData)] }
def FnUnsafeDescribeProducersRequestSaid : Prop := fnUnsafeDescribeProducersRequestRow.holds Tryd.pinned (OpenSpec.ofChange fnUnsafeDescribeProducersRequestSpec)

/-- ITS FALSE NEIGHBOUR: 'it returns false'. Refute it at one input. -/
def fnUnsafeDescribeProducersRequestWrong : ChangeSpec := { name := "fnUnsafeDescribeProducersRequest", fn := fun _ => fun
  | [d1, d2] => { results := [.lit (.bool false)], args := [d1, d2] }
  | _ => none }
def FnUnsafeDescribeProducersRequestWrongFalsely : Prop := fnUnsafeDescribeProducersRequestRow.holds Tryd.pinned (OpenSpec.ofChange fnUnsafeDescribeProducersRequestWrong)

/-- 'laws.FnUnsafeUpdateFeaturesRequest': WHATEVER THE INPUT: true; the input reads as it did. -/
def fnUnsafeUpdateFeaturesRequestSpec : ChangeSpec := { name := "fnUnsafeUpdateFeaturesRequest", fn := fun _ => fun
  | [d1, d2] => { results := [.lit (.bool true)], args := [d1, d2] }
  | _ => none }
def fnUnsafeUpdateFeaturesRequestRow : OpenClaim := { program := "ytfiedlfmogpanaadoor", sum := "8d7c476b2ab7aeed9b33f09e81c7845e061f9dc2ac79f75e16de7e3511ba7ba1", func := "pub-mailsack/laws.FnUnsafeUpdateFeaturesRequest", spec := "fnUnsafeUpdateFeaturesRequest", inPlace := ["internal/reflectlite.ValueOf", "internal/reflectlite.Swapper", "(internal/reflectlite.Value).Len"], unfollowed := true, recurses := true, named := ["encoding/binary.BigEndian", "pub-mailsack/pub/kmsg/inner/kbin.ErrNotEnoughData"], apart := false, laid := [("pub-mailsack/pub/kmsg/inner/kbin.ErrNotEnoughData", laid_pub_mailsack_pub_kmsg_inner_kbin_ErrNotEnoughData)] }
def FnUnsafeUpdateFeaturesRequestSaid : Prop := fnUnsafeUpdateFeaturesRequestRow.holds Tryd.pinned (OpenSpec.ofChange fnUnsafeUpdateFeaturesRequestSpec)

/-- ITS FALSE NEIGHBOUR: 'it returns false'. Refute it at one input. -/
def fnUnsafeUpdateFeaturesRequestWrong : ChangeSpec := { name := "fnUnsafeUpdateFeaturesRequest", fn := fun _ => fun
  | [d1, d2] => { results := [.lit (.bool false)], args := [d1, d2] }
  | _ => none }
def FnUnsafeUpdateFeaturesRequestWrongFalsely : Prop := fnUnsafeUpdateFeaturesRequestRow.holds Tryd.pinned (OpenSpec.ofChange fnUnsafeUpdateFeaturesRequestWrong)

/-- 'laws.FnUnsafeOffsetForLeaderEpochRequest': WHATEVER THE INPUT: true; the input reads as it did. -/
def fnUnsafeOffsetForLeaderEpochRequestSpec : ChangeSpec := { name := "fnUnsafeOffsetForLeaderEpochRequest", fn := fun _ => fun
  | [d1, d2] => { results := [.lit (.bool true)], args := [d1, d2] }
  | _ => none }
def fnUnsafeOffsetForLeaderEpochRequestRow : OpenClaim := { program := "ytfiedlfmogpanaadoor", sum := "8d7c476b2ab7aeed9b33f09e81c7845e061f9dc2ac79f75e16de7e3511ba7ba1", func := "pub-mailsack/laws.FnUnsafeOffsetForLeaderEpochRequest", spec := "fnUnsafeOffsetForLeaderEpochRequest", inPlace := ["internal/reflectlite.ValueOf", "internal/reflectlite.Swapper", "(internal/reflectlite.Value).Len"], unfollowed := true, recurses := true, named := ["encoding/binary.BigEndian", "pub-mailsack/pub/kmsg/inner/kbin.ErrNotEnoughData"], apart := false, laid := [("pub-mailsack/pub/kmsg/inner/kbin.ErrNotEnoughData", laid_pub_mailsack_pub_kmsg_inner_kbin_ErrNotEnoughData)] }
def FnUnsafeOffsetForLeaderEpochRequestSaid : Prop := fnUnsafeOffsetForLeaderEpochRequestRow.holds Tryd.pinned (OpenSpec.ofChange fnUnsafeOffsetForLeaderEpochRequestSpec)

/-- ITS FALSE NEIGHBOUR: 'it returns false'. Refute it at one input. -/
def fnUnsafeOffsetForLeaderEpochRequestWrong : ChangeSpec := { name := "fnUnsafeOffsetForLeaderEpochRequest", fn := fun _ => fun
  | [d1, d2] => { results := [.lit (.bool false)], args := [d1, d2] }
  | _ => none }
def FnUnsafeOffsetForLeaderEpochRequestWrongFalsely : Prop := fnUnsafeOffsetForLeaderEpochRequestRow.holds Tryd.pinned (OpenSpec.ofChange fnUnsafeOffsetForLeaderEpochRequestWrong)

/-- 'laws.FnUnsafeDeleteRecordsResponse': WHATEVER THE INPUT: true; the input reads as it did. -/
def fnUnsafeDeleteRecordsResponseSpec : ChangeSpec := { name := "fnUnsafeDeleteRecordsResponse", fn := fun _ => fun
  | [d1, d2] => { results := [.lit (.bool true)], args := [d1, d2] }
  | _ => none }
def fnUnsafeDeleteRecordsResponseRow : OpenClaim := { program := "ytfiedlfmogpanaadoor", sum := "8d7c476b2ab7aeed9b33f09e81c7845e061f9dc2ac79f75e16de7e3511ba7ba1", func := "pub-mailsack/laws.FnUnsafeDeleteRecordsResponse", spec := "fnUnsafeDeleteRecordsResponse", inPlace := ["internal/reflectlite.ValueOf", "internal/reflectlite.Swapper", "(internal/reflectlite.Value).Len"], unfollowed := true, recurses := true, named := ["encoding/binary.BigEndian", "pub-mailsack/pub/kmsg/inner/kbin.ErrNotEnoughData"], apart := false, laid := [("pub-mailsack/pub/kmsg/inner/kbin.ErrNotEnoughData", laid_pub_mailsack_pub_kmsg_inner_kbin_ErrNotEnoughData)] }
def FnUnsafeDeleteRecordsResponseSaid : Prop := fnUnsafeDeleteRecordsResponseRow.holds Tryd.pinned (OpenSpec.ofChange fnUnsafeDeleteRecordsResponseSpec)

/-- ITS FALSE NEIGHBOUR: 'it returns false'. Refute it at one input. -/
def fnUnsafeDeleteRecordsResponseWrong : ChangeSpec := { name := "fnUnsafeDeleteRecordsResponse", fn := fun _ => fun
  | [d1, d2] => { results := [.lit (.bool false)], args := [d1, d2] }
  | _ => none }
def FnUnsafeDeleteRecordsResponseWrongFalsely : Prop := fnUnsafeDeleteRecordsResponseRow.holds Tryd.pinned (OpenSpec.ofChange fnUnsafeDeleteRecordsResponseWrong)

/- THE SECOND FORM. 'bulk': how many values and letters a reading holds, each counted each time it is reached (what is shared counts as often as it is met; a slice's spare places count too). A statement '..UptoSaid' is the law's where the arguments, and the package variables that the reading takes, are together of bulk at most 1048576: NARROWER than '..Said'. Prove '..Said' where nothing that the law and all that it calls make is longer than what came in: it says more and counts as full. Else prove '..UptoSaid'. A law counts once. -/
mutual
def uptoBulk {H : Type} : DataW H → Nat
  | .lit (.string bytes) => bytes.length + 1
  | .lit _ => 1
  | .nil => 1
  | .ptr d => uptoBulk d + 1
  | .slice elems spare => uptoBulkAll elems + uptoBulkAll spare + 1
  | .agg parts => uptoBulkAll parts + 1
  | .iface _ d => uptoBulk d + 1
  | .map entries => uptoBulkEntries entries + 1
  | .held _ => 1
def uptoBulkAll {H : Type} : List (DataW H) → Nat
  | [] => 0
  | d :: r => uptoBulk d + uptoBulkAll r
def uptoBulkEntries {H : Type} : List (Lit × DataW H) → Nat
  | [] => 0
  | x :: r => uptoBulkEntry x + uptoBulkEntries r
def uptoBulkEntry {H : Type} : Lit × DataW H → Nat
  | (.string bytes, d) => bytes.length + uptoBulk d + 1
  | (_, d) => uptoBulk d + 1
 end
def uptoSmall : (H : Type) → List (DataW H) → Bool := fun _ ds => decide (uptoBulkAll ds ≤ 1048576)
def OpenSpec.upto (s : _root_.Go.ChangeSpec) : _root_.Go.OpenSpec := { _root_.Go.OpenSpec.ofChange s with cond := some uptoSmall }

/-- 'laws.FnUnsafeExpireDelegationTokenResponse', WHERE WHAT IT READS IS OF BULK AT MOST 1048576: true; the input reads as it did. -/
def fnUnsafeExpireDelegationTokenResponseUptoRow : OpenClaim := { program := "ytfiedlfmogpanaadoor", sum := "8d7c476b2ab7aeed9b33f09e81c7845e061f9dc2ac79f75e16de7e3511ba7ba1", func := "pub-mailsack/laws.FnUnsafeExpireDelegationTokenResponse", spec := "fnUnsafeExpireDelegationTokenResponse", inPlace := ["internal/reflectlite.ValueOf", "internal/reflectlite.Swapper", "(internal/reflectlite.Value).Len"], unfollowed := true, recurses := true, named := ["encoding/binary.BigEndian", "pub-mailsack/pub/kmsg/inner/kbin.ErrNotEnoughData"], apart := false, laid := [("pub-mailsack/pub/kmsg/inner/kbin.ErrNotEnoughData", laid_pub_mailsack_pub_kmsg_inner_kbin_ErrNotEnoughData)], narrowed := true }
def FnUnsafeExpireDelegationTokenResponseUptoSaid : Prop := fnUnsafeExpireDelegationTokenResponseUptoRow.holds Tryd.pinned (OpenSpec.upto fnUnsafeExpireDelegationTokenResponseSpec)

/-- 'laws.FnUnsafeRenewDelegationTokenRequest', WHERE WHAT IT READS IS OF BULK AT MOST 1048576: true; the input reads as it did. -/
def fnUnsafeRenewDelegationTokenRequestUptoRow : OpenClaim := { program := "ytfiedlfmogpanaadoor", sum := "8d7c476b2ab7aeed9b33f09e81c7845e061f9dc2ac79f75e16de7e3511ba7ba1", func := "pub-mailsack/laws.FnUnsafeRenewDelegationTokenRequest", spec := "fnUnsafeRenewDelegationTokenRequest", inPlace := ["internal/reflectlite.ValueOf", "internal/reflectlite.Swapper", "(internal/reflectlite.Value).Len"], unfollowed := true, recurses := true, named := ["encoding/binary.BigEndian", "pub-mailsack/pub/kmsg/inner/kbin.ErrNotEnoughData"], apart := false, laid := [("pub-mailsack/pub/kmsg/inner/kbin.ErrNotEnoughData", laid_pub_mailsack_pub_kmsg_inner_kbin_ErrNotEnoughData)], narrowed := true }
def FnUnsafeRenewDelegationTokenRequestUptoSaid : Prop := fnUnsafeRenewDelegationTokenRequestUptoRow.holds Tryd.pinned (OpenSpec.upto fnUnsafeRenewDelegationTokenRequestSpec)

/-- 'laws.FnUnsafeEnvelopeRequest', WHERE WHAT IT READS IS OF BULK AT MOST 1048576: true; the input reads as it did. -/
def fnUnsafeEnvelopeRequestUptoRow : OpenClaim := { program := "ytfiedlfmogpanaadoor", sum := "8d7c476b2ab7aeed9b33f09e81c7845e061f9dc2ac79f75e16de7e3511ba7ba1", func := "pub-mailsack/laws.FnUnsafeEnvelopeRequest", spec := "fnUnsafeEnvelopeRequest", inPlace := ["internal/reflectlite.ValueOf", "internal/reflectlite.Swapper", "(internal/reflectlite.Value).Len"], unfollowed := true, recurses := true, named := ["encoding/binary.BigEndian", "pub-mailsack/pub/kmsg/inner/kbin.ErrNotEnoughData"], apart := false, laid := [("pub-mailsack/pub/kmsg/inner/kbin.ErrNotEnoughData", laid_pub_mailsack_pub_kmsg_inner_kbin_ErrNotEnoughData)], narrowed := true }
def FnUnsafeEnvelopeRequestUptoSaid : Prop := fnUnsafeEnvelopeRequestUptoRow.holds Tryd.pinned (OpenSpec.upto fnUnsafeEnvelopeRequestSpec)

/-- 'laws.FnUnsafeHeartbeatRequest', WHERE WHAT IT READS IS OF BULK AT MOST 1048576: true; the input reads as it did. -/
def fnUnsafeHeartbeatRequestUptoRow : OpenClaim := { program := "ytfiedlfmogpanaadoor", sum := "8d7c476b2ab7aeed9b33f09e81c7845e061f9dc2ac79f75e16de7e3511ba7ba1", func := "pub-mailsack/laws.FnUnsafeHeartbeatRequest", spec := "fnUnsafeHeartbeatRequest", inPlace := ["internal/reflectlite.ValueOf", "internal/reflectlite.Swapper", "(internal/reflectlite.Value).Len"], unfollowed := true, recurses := true, named := ["encoding/binary.BigEndian", "pub-mailsack/pub/kmsg/inner/kbin.ErrNotEnoughData"], apart := false, laid := [("pub-mailsack/pub/kmsg/inner/kbin.ErrNotEnoughData", laid_pub_mailsack_pub_kmsg_inner_kbin_ErrNotEnoughData)], narrowed := true }
def FnUnsafeHeartbeatRequestUptoSaid : Prop := fnUnsafeHeartbeatRequestUptoRow.holds Tryd.pinned (OpenSpec.upto fnUnsafeHeartbeatRequestSpec)

/-- 'laws.FnUnsafeSASLAuthenticateResponse', WHERE WHAT IT READS IS OF BULK AT MOST 1048576: true; the input reads as it did. -/
def fnUnsafeSASLAuthenticateResponseUptoRow : OpenClaim := { program := "ytfiedlfmogpanaadoor", sum := "8d7c476b2ab7aeed9b33f09e81c7845e061f9dc2ac79f75e16de7e3511ba7ba1", func := "pub-mailsack/laws.FnUnsafeSASLAuthenticateResponse", spec := "fnUnsafeSASLAuthenticateResponse", inPlace := ["internal/reflectlite.ValueOf", "internal/reflectlite.Swapper", "(internal/reflectlite.Value).Len"], unfollowed := true, recurses := true, named := ["encoding/binary.BigEndian", "pub-mailsack/pub/kmsg/inner/kbin.ErrNotEnoughData"], apart := false, laid := [("pub-mailsack/pub/kmsg/inner/kbin.ErrNotEnoughData", laid_pub_mailsack_pub_kmsg_inner_kbin_ErrNotEnoughData)], narrowed := true }
def FnUnsafeSASLAuthenticateResponseUptoSaid : Prop := fnUnsafeSASLAuthenticateResponseUptoRow.holds Tryd.pinned (OpenSpec.upto fnUnsafeSASLAuthenticateResponseSpec)

/-- 'laws.FnUnsafeLeaderChangeMessage', WHERE WHAT IT READS IS OF BULK AT MOST 1048576: true; the input reads as it did. -/
def fnUnsafeLeaderChangeMessageUptoRow : OpenClaim := { program := "ytfiedlfmogpanaadoor", sum := "8d7c476b2ab7aeed9b33f09e81c7845e061f9dc2ac79f75e16de7e3511ba7ba1", func := "pub-mailsack/laws.FnUnsafeLeaderChangeMessage", spec := "fnUnsafeLeaderChangeMessage", inPlace := ["internal/reflectlite.ValueOf", "internal/reflectlite.Swapper", "(internal/reflectlite.Value).Len"], unfollowed := true, recurses := true, named := ["encoding/binary.BigEndian", "pub-mailsack/pub/kmsg/inner/kbin.ErrNotEnoughData"], apart := false, laid := [("pub-mailsack/pub/kmsg/inner/kbin.ErrNotEnoughData", laid_pub_mailsack_pub_kmsg_inner_kbin_ErrNotEnoughData)], narrowed := true }
def FnUnsafeLeaderChangeMessageUptoSaid : Prop := fnUnsafeLeaderChangeMessageUptoRow.holds Tryd.pinned (OpenSpec.upto fnUnsafeLeaderChangeMessageSpec)

/-- 'laws.FnUnsafeDescribeProducersRequest', WHERE WHAT IT READS IS OF BULK AT MOST 1048576: true; the input reads as it did. -/
def fnUnsafeDescribeProducersRequestUptoRow : OpenClaim := { program := "ytfiedlfmogpanaadoor", sum := "8d7c476b2ab7aeed9b33f09e81c7845e061f9dc2ac79f75e16de7e3511ba7ba1", func := "pub-mailsack/laws.FnUnsafeDescribeProducersRequest", spec := "fnUnsafeDescribeProducersRequest", inPlace := ["internal/reflectlite.ValueOf", "internal/reflectlite.Swapper", "(internal/reflectlite.Value).Len"], unfollowed := true, recurses := true, named := ["encoding/binary.BigEndian", "pub-mailsack/pub/kmsg/inner/kbin.ErrNotEnoughData"], apart := false, laid := [("pub-mailsack/pub/kmsg/inner/kbin.ErrNotEnoughData", laid_pub_mailsack_pub_kmsg_inner_kbin_ErrNotEnoughData)], narrowed := true }
def FnUnsafeDescribeProducersRequestUptoSaid : Prop := fnUnsafeDescribeProducersRequestUptoRow.holds Tryd.pinned (OpenSpec.upto fnUnsafeDescribeProducersRequestSpec)

/-- 'laws.FnUnsafeUpdateFeaturesRequest', WHERE WHAT IT READS IS OF BULK AT MOST 1048576: true; the input reads as it did. -/
def fnUnsafeUpdateFeaturesRequestUptoRow : OpenClaim := { program := "ytfiedlfmogpanaadoor", sum := "8d7c476b2ab7aeed9b33f09e81c7845e061f9dc2ac79f75e16de7e3511ba7ba1", func := "pub-mailsack/laws.FnUnsafeUpdateFeaturesRequest", spec := "fnUnsafeUpdateFeaturesRequest", inPlace := ["internal/reflectlite.ValueOf", "internal/reflectlite.Swapper", "(internal/reflectlite.Value).Len"], unfollowed := true, recurses := true, named := ["encoding/binary.BigEndian", "pub-mailsack/pub/kmsg/inner/kbin.ErrNotEnoughData"], apart := false, laid := [("pub-mailsack/pub/kmsg/inner/kbin.ErrNotEnoughData", laid_pub_mailsack_pub_kmsg_inner_kbin_ErrNotEnoughData)], narrowed := true }
def FnUnsafeUpdateFeaturesRequestUptoSaid : Prop := fnUnsafeUpdateFeaturesRequestUptoRow.holds Tryd.pinned (OpenSpec.upto fnUnsafeUpdateFeaturesRequestSpec)

/-- 'laws.FnUnsafeOffsetForLeaderEpochRequest', WHERE WHAT IT READS IS OF BULK AT MOST 1048576: true; the input reads as it did. -/
def fnUnsafeOffsetForLeaderEpochRequestUptoRow : OpenClaim := { program := "ytfiedlfmogpanaadoor", sum := "8d7c476b2ab7aeed9b33f09e81c7845e061f9dc2ac79f75e16de7e3511ba7ba1", func := "pub-mailsack/laws.FnUnsafeOffsetForLeaderEpochRequest", spec := "fnUnsafeOffsetForLeaderEpochRequest", inPlace := ["internal/reflectlite.ValueOf", "internal/reflectlite.Swapper", "(internal/reflectlite.Value).Len"], unfollowed := true, recurses := true, named := ["encoding/binary.BigEndian", "pub-mailsack/pub/kmsg/inner/kbin.ErrNotEnoughData"], apart := false, laid := [("pub-mailsack/pub/kmsg/inner/kbin.ErrNotEnoughData", laid_pub_mailsack_pub_kmsg_inner_kbin_ErrNotEnoughData)], narrowed := true }
def FnUnsafeOffsetForLeaderEpochRequestUptoSaid : Prop := fnUnsafeOffsetForLeaderEpochRequestUptoRow.holds Tryd.pinned (OpenSpec.upto fnUnsafeOffsetForLeaderEpochRequestSpec)

/-- 'laws.FnUnsafeDeleteRecordsResponse', WHERE WHAT IT READS IS OF BULK AT MOST 1048576: true; the input reads as it did. -/
def fnUnsafeDeleteRecordsResponseUptoRow : OpenClaim := { program := "ytfiedlfmogpanaadoor", sum := "8d7c476b2ab7aeed9b33f09e81c7845e061f9dc2ac79f75e16de7e3511ba7ba1", func := "pub-mailsack/laws.FnUnsafeDeleteRecordsResponse", spec := "fnUnsafeDeleteRecordsResponse", inPlace := ["internal/reflectlite.ValueOf", "internal/reflectlite.Swapper", "(internal/reflectlite.Value).Len"], unfollowed := true, recurses := true, named := ["encoding/binary.BigEndian", "pub-mailsack/pub/kmsg/inner/kbin.ErrNotEnoughData"], apart := false, laid := [("pub-mailsack/pub/kmsg/inner/kbin.ErrNotEnoughData", laid_pub_mailsack_pub_kmsg_inner_kbin_ErrNotEnoughData)], narrowed := true }
def FnUnsafeDeleteRecordsResponseUptoSaid : Prop := fnUnsafeDeleteRecordsResponseUptoRow.holds Tryd.pinned (OpenSpec.upto fnUnsafeDeleteRecordsResponseSpec)

end Rows
end Go.Proofs.YtfiedlfmogpanaaDoor
