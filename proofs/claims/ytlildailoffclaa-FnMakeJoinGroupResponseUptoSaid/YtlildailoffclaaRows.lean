/-
  NARROWER THAN 'FOR EVERY INPUT', by the rows' own cells (each row's printed sentence says how): FnMakeUpdateMetadataResponse: loops · FnMakeDefaultPrincipalData: loops · FnMakeAlterReplicaLogDirsRequest: loops · FnMakeWriteShareGroupStateResponse: loops · FnMakeListOffsetsRequest: loops · FnMakeAlterShareGroupOffsetsResponse: loops · FnMakeJoinGroupResponse: loops.
  DERIVED. THE GIVEN ROWS OF THIS SEAT. 7 by the template 'for every input the law returns true; each argument reads behind the call as it read before'; 0 by the template 'total and deterministic' (their statements: YtlildailoffclaaTotals.lean).
  GIVEN WITH THE SEED: the statements are not yours to turn. If you find one false, say at which input.
  Laid BY PROGRAM, IN A SANDBOX (cutbox-rows.mjs): the forced cells as the released guide's own fill.sh prints them over the translation 1af98b14fecbacad… (all of the seat's roots in one cut). By AI agents, Wed Nov 11 2026. No macro, syntax, notation, axiom, sorry.
-/
import Derived.Test.YtlildailoffclaaChecked
import GoSem.Claim
import GoSem.ClaimJoined
import GoSem.ClaimMapViews
import Derived.JoinedTies
import Derived.KernelRfl
namespace Go.Proofs.Ytlildailoffclaa
/- THE CELL 'sum', in the pinned program and in every row, IS THE sha256 OF THE DUMP (.gsa) THAT YtlildailoffclaaProg.lean LOADS. Nothing in Lean hashes anything: it is a label: what it is worth is what the hold of that sum in a sandbox is worth. -/
noncomputable def Try.pinned : Pinned := { name := "ytlildailoffclaa", sum := "1af98b14fecbacad3654dc70881969034d2f131446caa86d6e279539c48268f3", checked := Try.checked }
namespace Rows
def none {H : Type} : Left H := { results := [], args := [] }

/-- 'laws.FnMakeUpdateMetadataResponse': WHATEVER THE INPUT: true; the input reads as it did. -/
def fnMakeUpdateMetadataResponseSpec : ChangeSpec := { name := "fnMakeUpdateMetadataResponse", fn := fun _ => fun
  | [d1, d2] => { results := [.lit (.bool true)], args := [d1, d2] }
  | _ => none }
def fnMakeUpdateMetadataResponseRow : OpenClaim := { program := "ytlildailoffclaa", sum := "1af98b14fecbacad3654dc70881969034d2f131446caa86d6e279539c48268f3", func := "pub-mailsack/laws.FnMakeUpdateMetadataResponse", spec := "fnMakeUpdateMetadataResponse", inPlace := ["internal/reflectlite.ValueOf", "internal/reflectlite.Swapper", "(internal/reflectlite.Value).Len"], unfollowed := true, recurses := true, loops := true, apart := false }
def FnMakeUpdateMetadataResponseSaid : Prop := fnMakeUpdateMetadataResponseRow.holds Try.pinned (OpenSpec.ofChange fnMakeUpdateMetadataResponseSpec)

/-- ITS FALSE NEIGHBOUR: 'it returns false'. Refute it at one input. -/
def fnMakeUpdateMetadataResponseWrong : ChangeSpec := { name := "fnMakeUpdateMetadataResponse", fn := fun _ => fun
  | [d1, d2] => { results := [.lit (.bool false)], args := [d1, d2] }
  | _ => none }
def FnMakeUpdateMetadataResponseWrongFalsely : Prop := fnMakeUpdateMetadataResponseRow.holds Try.pinned (OpenSpec.ofChange fnMakeUpdateMetadataResponseWrong)

/-- 'laws.FnMakeDefaultPrincipalData': WHATEVER THE INPUT: true; the input reads as it did. -/
def fnMakeDefaultPrincipalDataSpec : ChangeSpec := { name := "fnMakeDefaultPrincipalData", fn := fun _ => fun
  | [d1, d2] => { results := [.lit (.bool true)], args := [d1, d2] }
  | _ => none }
def fnMakeDefaultPrincipalDataRow : OpenClaim := { program := "ytlildailoffclaa", sum := "1af98b14fecbacad3654dc70881969034d2f131446caa86d6e279539c48268f3", func := "pub-mailsack/laws.FnMakeDefaultPrincipalData", spec := "fnMakeDefaultPrincipalData", inPlace := ["internal/reflectlite.ValueOf", "internal/reflectlite.Swapper", "(internal/reflectlite.Value).Len"], unfollowed := true, recurses := true, loops := true, apart := false }
def FnMakeDefaultPrincipalDataSaid : Prop := fnMakeDefaultPrincipalDataRow.holds Try.pinned (OpenSpec.ofChange fnMakeDefaultPrincipalDataSpec)

/-- ITS FALSE NEIGHBOUR: 'it returns false'. Refute it at one input. -/
def fnMakeDefaultPrincipalDataWrong : ChangeSpec := { name := "fnMakeDefaultPrincipalData", fn := fun _ => fun
  | [d1, d2] => { results := [.lit (.bool false)], args := [d1, d2] }
  | _ => none }
def FnMakeDefaultPrincipalDataWrongFalsely : Prop := fnMakeDefaultPrincipalDataRow.holds Try.pinned (OpenSpec.ofChange fnMakeDefaultPrincipalDataWrong)

/-- 'laws.FnMakeAlterReplicaLogDirsRequest': WHATEVER THE INPUT: true; the input reads as it did. -/
def fnMakeAlterReplicaLogDirsRequestSpec : ChangeSpec := { name := "fnMakeAlterReplicaLogDirsRequest", fn := fun _ => fun
  | [d1, d2] => { results := [.lit (.bool true)], args := [d1, d2] }
  | _ => none }
def fnMakeAlterReplicaLogDirsRequestRow : OpenClaim := { program := "ytlildailoffclaa", sum := "1af98b14fecbacad3654dc70881969034d2f131446caa86d6e279539c48268f3", func := "pub-mailsack/laws.FnMakeAlterReplicaLogDirsRequest", spec := "fnMakeAlterReplicaLogDirsRequest", inPlace := ["internal/reflectlite.ValueOf", "internal/reflectlite.Swapper", "(internal/reflectlite.Value).Len"], unfollowed := true, recurses := true, loops := true, apart := false }
def FnMakeAlterReplicaLogDirsRequestSaid : Prop := fnMakeAlterReplicaLogDirsRequestRow.holds Try.pinned (OpenSpec.ofChange fnMakeAlterReplicaLogDirsRequestSpec)

/-- ITS FALSE NEIGHBOUR: 'it returns false'. Refute it at one input. -/
def fnMakeAlterReplicaLogDirsRequestWrong : ChangeSpec := { name := "fnMakeAlterReplicaLogDirsRequest", fn := fun _ => fun
  | [d1, d2] => { results := [.lit (.bool false)], args := [d1, d2] }
  | _ => none }
def FnMakeAlterReplicaLogDirsRequestWrongFalsely : Prop := fnMakeAlterReplicaLogDirsRequestRow.holds Try.pinned (OpenSpec.ofChange fnMakeAlterReplicaLogDirsRequestWrong)

/-- 'laws.FnMakeWriteShareGroupStateResponse': WHATEVER THE INPUT: true; the input reads as it did. -/
def fnMakeWriteShareGroupStateResponseSpec : ChangeSpec := { name := "fnMakeWriteShareGroupStateResponse", fn := fun _ => fun
  | [d1, d2] => { results := [.lit (.bool true)], args := [d1, d2] }
  | _ => none }
def fnMakeWriteShareGroupStateResponseRow : OpenClaim := { program := "ytlildailoffclaa", sum := "1af98b14fecbacad3654dc70881969034d2f131446caa86d6e279539c48268f3", func := "pub-mailsack/laws.FnMakeWriteShareGroupStateResponse", spec := "fnMakeWriteShareGroupStateResponse", inPlace := ["internal/reflectlite.ValueOf", "internal/reflectlite.Swapper", "(internal/reflectlite.Value).Len"], unfollowed := true, recurses := true, loops := true, apart := false }
def FnMakeWriteShareGroupStateResponseSaid : Prop := fnMakeWriteShareGroupStateResponseRow.holds Try.pinned (OpenSpec.ofChange fnMakeWriteShareGroupStateResponseSpec)

/-- ITS FALSE NEIGHBOUR: 'it returns false'. Refute it at one input. -/
def fnMakeWriteShareGroupStateResponseWrong : ChangeSpec := { name := "fnMakeWriteShareGroupStateResponse", fn := fun _ => fun
  | [d1, d2] => { results := [.lit (.bool false)], args := [d1, d2] }
  | _ => none }
def FnMakeWriteShareGroupStateResponseWrongFalsely : Prop := fnMakeWriteShareGroupStateResponseRow.holds Try.pinned (OpenSpec.ofChange fnMakeWriteShareGroupStateResponseWrong)

/-- 'laws.FnMakeListOffsetsRequest': WHATEVER THE INPUT: true; the input reads as it did. -/
def fnMakeListOffsetsRequestSpec : ChangeSpec := { name := "fnMakeListOffsetsRequest", fn := fun _ => fun
  | [d1, d2] => { results := [.lit (.bool true)], args := [d1, d2] }
  | _ => none }
def fnMakeListOffsetsRequestRow : OpenClaim := { program := "ytlildailoffclaa", sum := "1af98b14fecbacad3654dc70881969034d2f131446caa86d6e279539c48268f3", func := "pub-mailsack/laws.FnMakeListOffsetsRequest", spec := "fnMakeListOffsetsRequest", inPlace := ["internal/reflectlite.ValueOf", "internal/reflectlite.Swapper", "(internal/reflectlite.Value).Len"], unfollowed := true, recurses := true, loops := true, apart := false }
def FnMakeListOffsetsRequestSaid : Prop := fnMakeListOffsetsRequestRow.holds Try.pinned (OpenSpec.ofChange fnMakeListOffsetsRequestSpec)

/-- ITS FALSE NEIGHBOUR: 'it returns false'. Refute it at one input. -/
def fnMakeListOffsetsRequestWrong : ChangeSpec := { name := "fnMakeListOffsetsRequest", fn := fun _ => fun
  | [d1, d2] => { results := [.lit (.bool false)], args := [d1, d2] }
  | _ => none }
def FnMakeListOffsetsRequestWrongFalsely : Prop := fnMakeListOffsetsRequestRow.holds Try.pinned (OpenSpec.ofChange fnMakeListOffsetsRequestWrong)

/-- 'laws.FnMakeAlterShareGroupOffsetsResponse': WHATEVER THE INPUT: true; the input reads as it did. -/
def fnMakeAlterShareGroupOffsetsResponseSpec : ChangeSpec := { name := "fnMakeAlterShareGroupOffsetsResponse", fn := fun _ => fun
  | [d1, d2] => { results := [.lit (.bool true)], args := [d1, d2] }
  | _ => none }
def fnMakeAlterShareGroupOffsetsResponseRow : OpenClaim := { program := "ytlildailoffclaa", sum := "1af98b14fecbacad3654dc70881969034d2f131446caa86d6e279539c48268f3", func := "pub-mailsack/laws.FnMakeAlterShareGroupOffsetsResponse", spec := "fnMakeAlterShareGroupOffsetsResponse", inPlace := ["internal/reflectlite.ValueOf", "internal/reflectlite.Swapper", "(internal/reflectlite.Value).Len"], unfollowed := true, recurses := true, loops := true, apart := false }
def FnMakeAlterShareGroupOffsetsResponseSaid : Prop := fnMakeAlterShareGroupOffsetsResponseRow.holds Try.pinned (OpenSpec.ofChange fnMakeAlterShareGroupOffsetsResponseSpec)

/-- ITS FALSE NEIGHBOUR: 'it returns false'. Refute it at one input. -/
def fnMakeAlterShareGroupOffsetsResponseWrong : ChangeSpec := { name := "fnMakeAlterShareGroupOffsetsResponse", fn := fun _ => fun
  | [d1, d2] => { results := [.lit (.bool false)], args := [d1, d2] }
  | _ => none }
def FnMakeAlterShareGroupOffsetsResponseWrongFalsely : Prop := fnMakeAlterShareGroupOffsetsResponseRow.holds Try.pinned (OpenSpec.ofChange fnMakeAlterShareGroupOffsetsResponseWrong)

/-- 'laws.FnMakeJoinGroupResponse': WHATEVER THE INPUT: true; the input reads as it did. -/
def fnMakeJoinGroupResponseSpec : ChangeSpec := { name := "fnMakeJoinGroupResponse", fn := fun _ => fun
  | [d1, d2] => { results := [.lit (.bool true)], args := [d1, d2] }
  | _ => none }
def fnMakeJoinGroupResponseRow : OpenClaim := { program := "ytlildailoffclaa", sum := "1af98b14fecbacad3654dc70881969034d2f131446caa86d6e279539c48268f3", func := "pub-mailsack/laws.FnMakeJoinGroupResponse", spec := "fnMakeJoinGroupResponse", inPlace := ["internal/reflectlite.ValueOf", "internal/reflectlite.Swapper", "(internal/reflectlite.Value).Len"], unfollowed := true, recurses := true, loops := true, apart := false }
def FnMakeJoinGroupResponseSaid : Prop := fnMakeJoinGroupResponseRow.holds Try.pinned (OpenSpec.ofChange fnMakeJoinGroupResponseSpec)

/-- ITS FALSE NEIGHBOUR: 'it returns false'. Refute it at one input. -/
def fnMakeJoinGroupResponseWrong : ChangeSpec := { name := "fnMakeJoinGroupResponse", fn := fun _ => fun
  | [d1, d2] => { results := [.lit (.bool false)], args := [d1, d2] }
  | _ => none }
def FnMakeJoinGroupResponseWrongFalsely : Prop := fnMakeJoinGroupResponseRow.holds Try.pinned (OpenSpec.ofChange fnMakeJoinGroupResponseWrong)

/- THE SECOND FORM. 'bulk': how many values and letters a reading holds, each counted each time it is reached (what is shared counts as often as it is met; a slice's spare places count too). A statement '..UptoSaid' is the law's where the arguments, and the package variables that the reading takes, are together of bulk at most 1048576: NARROWER than '..Said'. Prove '..Said' where nothing that the law and all that it calls make is longer than what came in: it says more and counts as full. Else prove '..UptoSaid'. A law counts once. -/
mutual
def uptoBulk {H : Type} : DataW H → Nat
  | .lit (.string bytes) => bytes.length + 1
  | .lit _ => 1
  | .nil => 1
  | .ptr d => uptoBulk d + 1
  | .slice elems spare => uptoBulkAll elems + uptoBulkAll spare + 1
  | .agg parts => uptoBulkAll parts + 1
  | .iface _ d => uptoBulk d + 1
  | .map entries => uptoBulkEntries entries + 1
  | .held _ => 1
def uptoBulkAll {H : Type} : List (DataW H) → Nat
  | [] => 0
  | d :: r => uptoBulk d + uptoBulkAll r
def uptoBulkEntries {H : Type} : List (Lit × DataW H) → Nat
  | [] => 0
  | x :: r => uptoBulkEntry x + uptoBulkEntries r
def uptoBulkEntry {H : Type} : Lit × DataW H → Nat
  | (.string bytes, d) => bytes.length + uptoBulk d + 1
  | (_, d) => uptoBulk d + 1
 end
def uptoSmall : (H : Type) → List (DataW H) → Bool := fun _ ds => decide (uptoBulkAll ds ≤ 1048576)
def OpenSpec.upto (s : _root_.Go.ChangeSpec) : _root_.Go.OpenSpec := { _root_.Go.OpenSpec.ofChange s with cond := some uptoSmall }

/-- 'laws.FnMakeUpdateMetadataResponse', WHERE WHAT IT READS IS OF BULK AT MOST 1048576: true; the input reads as it did. -/
def fnMakeUpdateMetadataResponseUptoRow : OpenClaim := { program := "ytlildailoffclaa", sum := "1af98b14fecbacad3654dc70881969034d2f131446caa86d6e279539c48268f3", func := "pub-mailsack/laws.FnMakeUpdateMetadataResponse", spec := "fnMakeUpdateMetadataResponse", inPlace := ["internal/reflectlite.ValueOf", "internal/reflectlite.Swapper", "(internal/reflectlite.Value).Len"], unfollowed := true, recurses := true, loops := true, apart := false, narrowed := true }
def FnMakeUpdateMetadataResponseUptoSaid : Prop := fnMakeUpdateMetadataResponseUptoRow.holds Try.pinned (OpenSpec.upto fnMakeUpdateMetadataResponseSpec)

/-- 'laws.FnMakeDefaultPrincipalData', WHERE WHAT IT READS IS OF BULK AT MOST 1048576: true; the input reads as it did. -/
def fnMakeDefaultPrincipalDataUptoRow : OpenClaim := { program := "ytlildailoffclaa", sum := "1af98b14fecbacad3654dc70881969034d2f131446caa86d6e279539c48268f3", func := "pub-mailsack/laws.FnMakeDefaultPrincipalData", spec := "fnMakeDefaultPrincipalData", inPlace := ["internal/reflectlite.ValueOf", "internal/reflectlite.Swapper", "(internal/reflectlite.Value).Len"], unfollowed := true, recurses := true, loops := true, apart := false, narrowed := true }
def FnMakeDefaultPrincipalDataUptoSaid : Prop := fnMakeDefaultPrincipalDataUptoRow.holds Try.pinned (OpenSpec.upto fnMakeDefaultPrincipalDataSpec)

/-- 'laws.FnMakeAlterReplicaLogDirsRequest', WHERE WHAT IT READS IS OF BULK AT MOST 1048576: true; the input reads as it did. -/
def fnMakeAlterReplicaLogDirsRequestUptoRow : OpenClaim := { program := "ytlildailoffclaa", sum := "1af98b14fecbacad3654dc70881969034d2f131446caa86d6e279539c48268f3", func := "pub-mailsack/laws.FnMakeAlterReplicaLogDirsRequest", spec := "fnMakeAlterReplicaLogDirsRequest", inPlace := ["internal/reflectlite.ValueOf", "internal/reflectlite.Swapper", "(internal/reflectlite.Value).Len"], unfollowed := true, recurses := true, loops := true, apart := false, narrowed := true }
def FnMakeAlterReplicaLogDirsRequestUptoSaid : Prop := fnMakeAlterReplicaLogDirsRequestUptoRow.holds Try.pinned (OpenSpec.upto fnMakeAlterReplicaLogDirsRequestSpec)

/-- 'laws.FnMakeWriteShareGroupStateResponse', WHERE WHAT IT READS IS OF BULK AT MOST 1048576: true; the input reads as it did. -/
def fnMakeWriteShareGroupStateResponseUptoRow : OpenClaim := { program := "ytlildailoffclaa", sum := "1af98b14fecbacad3654dc70881969034d2f131446caa86d6e279539c48268f3", func := "pub-mailsack/laws.FnMakeWriteShareGroupStateResponse", spec := "fnMakeWriteShareGroupStateResponse", inPlace := ["internal/reflectlite.ValueOf", "internal/reflectlite.Swapper", "(internal/reflectlite.Value).Len"], unfollowed := true, recurses := true, loops := true, apart := false, narrowed := true }
def FnMakeWriteShareGroupStateResponseUptoSaid : Prop := fnMakeWriteShareGroupStateResponseUptoRow.holds Try.pinned (OpenSpec.upto fnMakeWriteShareGroupStateResponseSpec)

/-- 'laws.FnMakeListOffsetsRequest', WHERE WHAT IT READS IS OF BULK AT MOST 1048576: true; the input reads as it did. -/
def fnMakeListOffsetsRequestUptoRow : OpenClaim := { program := "ytlildailoffclaa", sum := "1af98b14fecbacad3654dc70881969034d2f131446caa86d6e279539c48268f3", func := "pub-mailsack/laws.FnMakeListOffsetsRequest", spec := "fnMakeListOffsetsRequest", inPlace := ["internal/reflectlite.ValueOf", "internal/reflectlite.Swapper", "(internal/reflectlite.Value).Len"], unfollowed := true, recurses := true, loops := true, apart := false, narrowed := true }
def FnMakeListOffsetsRequestUptoSaid : Prop := fnMakeListOffsetsRequestUptoRow.holds Try.pinned (OpenSpec.upto fnMakeListOffsetsRequestSpec)

/-- 'laws.FnMakeAlterShareGroupOffsetsResponse', WHERE WHAT IT READS IS OF BULK AT MOST 1048576: true; the input reads as it did. -/
def fnMakeAlterShareGroupOffsetsResponseUptoRow : OpenClaim := { program := "ytlildailoffclaa", sum := "1af98b14fecbacad3654dc70881969034d2f131446caa86d6e279539c48268f3", func := "pub-mailsack/laws.FnMakeAlterShareGroupOffsetsResponse", spec := "fnMakeAlterShareGroupOffsetsResponse", inPlace := ["internal/reflectlite.ValueOf", "internal/reflectlite.Swapper", "(internal/reflectlite.Value).Len"], unfollowed := true, recurses := true, loops := true, apart := false, narrowed := true }
def FnMakeAlterShareGroupOffsetsResponseUptoSaid : Prop := fnMakeAlterShareGroupOffsetsResponseUptoRow.holds Try.pinned (OpenSpec.upto fnMakeAlterShareGroupOffsetsResponseSpec)

/-- 'laws.FnMakeJoinGroupResponse', WHERE WHAT IT READS IS OF BULK AT MOST 1048576: true; the input reads as it did. -/
def fnMakeJoinGroupResponseUptoRow : OpenClaim := { program := "ytlildailoffclaa", sum := "1af98b14fecbacad3654dc70881969034d2f131446caa86d6e279539c48268f3", func := "pub-mailsack/laws.FnMakeJoinGroupResponse", spec := "fnMakeJoinGroupResponse", inPlace := ["internal/reflectlite.ValueOf", "internal/reflectlite.Swapper", "(internal/reflectlite.Value).Len"], unfollowed := true, recurses := true, loops := true, apart := false, narrowed := true }
def FnMakeJoinGroupResponseUptoSaid : Prop := fnMakeJoinGroupResponseUptoRow.holds Try.pinned (OpenSpec.upto fnMakeJoinGroupResponseSpec)

end Rows
end Go.Proofs.Ytlildailoffclaa
