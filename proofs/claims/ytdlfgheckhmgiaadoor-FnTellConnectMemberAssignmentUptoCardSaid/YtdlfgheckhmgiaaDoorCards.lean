/-
  DERIVED. GIVEN WITH THE SEED: THE CARDS: each row of YtdlfgheckhmgiaaDoorRows.lean that lists a variable, with what it lists TIED to the program's text (the seventh form; the later family's looks); each row that meets fmt, with fmt's text TOLD by the authors' own Lean function (tested against real Go, not proved from fmt's source: count such statements apart). THE CARD IS WHAT COUNTS. Prove the row's statement (the work); the ties are given (YtdlfgheckhmgiaaDoorTie.lean); close each card by the builder's one call (the guide's Derived/Test/ToyasCard.lean, 'card_holds'). Laid BY PROGRAM, IN A SANDBOX (cutbox-door.mjs). By AI agents, Wed Nov 11 2026. No macro, syntax, notation, axiom, sorry.
-/
import Derived.Test.YtdlfgheckhmgiaaDoorRows
import GoSem.ClaimSeven
namespace Go.Proofs.YtdlfgheckhmgiaaDoor
namespace Rows

/-- THE TIED CARD OF 'laws.FnTellConnectMemberAssignment'. -/
def fnTellConnectMemberAssignmentCard : Claim7 := { stood := { row := fnTellConnectMemberAssignmentRow, standIns := [], harness := (true, "efd5f1b900d9a03fccb3fb86ab160fd844b24268c34a6cf5524149d89de2780c"), looks := false }, kinds := [], alts := [], laidByText := true, laidKinds := [.sentinel], laidTests := true, laidLooks := .later }
def FnTellConnectMemberAssignmentCardSaid : Prop := Claim7.holds Tryd.pinned (.plain (OpenSpec.ofChange fnTellConnectMemberAssignmentSpec)) fnTellConnectMemberAssignmentCard

/-- THE TIED CARD OF 'laws.FnUnsafeLeaderChangeMessage'. -/
def fnUnsafeLeaderChangeMessageCard : Claim7 := { stood := { row := fnUnsafeLeaderChangeMessageRow, standIns := [], harness := (true, "efd5f1b900d9a03fccb3fb86ab160fd844b24268c34a6cf5524149d89de2780c"), looks := false }, kinds := [], alts := [], laidByText := true, laidKinds := [.sentinel], laidTests := true, laidLooks := .later }
def FnUnsafeLeaderChangeMessageCardSaid : Prop := Claim7.holds Tryd.pinned (.plain (OpenSpec.ofChange fnUnsafeLeaderChangeMessageSpec)) fnUnsafeLeaderChangeMessageCard

/-- THE TIED CARD OF 'laws.FnUnsafeIncrementalAlterConfigsResponse'. -/
def fnUnsafeIncrementalAlterConfigsResponseCard : Claim7 := { stood := { row := fnUnsafeIncrementalAlterConfigsResponseRow, standIns := [], harness := (true, "efd5f1b900d9a03fccb3fb86ab160fd844b24268c34a6cf5524149d89de2780c"), looks := false }, kinds := [], alts := [], laidByText := true, laidKinds := [.sentinel], laidTests := true, laidLooks := .later }
def FnUnsafeIncrementalAlterConfigsResponseCardSaid : Prop := Claim7.holds Tryd.pinned (.plain (OpenSpec.ofChange fnUnsafeIncrementalAlterConfigsResponseSpec)) fnUnsafeIncrementalAlterConfigsResponseCard

/-- THE TIED CARD OF 'laws.FnUnsafeDeleteTopicsResponse'. -/
def fnUnsafeDeleteTopicsResponseCard : Claim7 := { stood := { row := fnUnsafeDeleteTopicsResponseRow, standIns := [], harness := (true, "efd5f1b900d9a03fccb3fb86ab160fd844b24268c34a6cf5524149d89de2780c"), looks := false }, kinds := [], alts := [], laidByText := true, laidKinds := [.sentinel], laidTests := true, laidLooks := .later }
def FnUnsafeDeleteTopicsResponseCardSaid : Prop := Claim7.holds Tryd.pinned (.plain (OpenSpec.ofChange fnUnsafeDeleteTopicsResponseSpec)) fnUnsafeDeleteTopicsResponseCard

/-- THE TIED CARD OF 'laws.FnUnsafeDescribeClientQuotasRequest'. -/
def fnUnsafeDescribeClientQuotasRequestCard : Claim7 := { stood := { row := fnUnsafeDescribeClientQuotasRequestRow, standIns := [], harness := (true, "efd5f1b900d9a03fccb3fb86ab160fd844b24268c34a6cf5524149d89de2780c"), looks := false }, kinds := [], alts := [], laidByText := true, laidKinds := [.sentinel], laidTests := true, laidLooks := .later }
def FnUnsafeDescribeClientQuotasRequestCardSaid : Prop := Claim7.holds Tryd.pinned (.plain (OpenSpec.ofChange fnUnsafeDescribeClientQuotasRequestSpec)) fnUnsafeDescribeClientQuotasRequestCard

/-- THE TIED CARD OF 'laws.FnUnsafeBeginQuorumEpochResponse'. -/
def fnUnsafeBeginQuorumEpochResponseCard : Claim7 := { stood := { row := fnUnsafeBeginQuorumEpochResponseRow, standIns := [], harness := (true, "efd5f1b900d9a03fccb3fb86ab160fd844b24268c34a6cf5524149d89de2780c"), looks := false }, kinds := [], alts := [], laidByText := true, laidKinds := [.sentinel], laidTests := true, laidLooks := .later }
def FnUnsafeBeginQuorumEpochResponseCardSaid : Prop := Claim7.holds Tryd.pinned (.plain (OpenSpec.ofChange fnUnsafeBeginQuorumEpochResponseSpec)) fnUnsafeBeginQuorumEpochResponseCard

/-- THE TIED CARD OF 'laws.FnUnsafeEndQuorumEpochResponse'. -/
def fnUnsafeEndQuorumEpochResponseCard : Claim7 := { stood := { row := fnUnsafeEndQuorumEpochResponseRow, standIns := [], harness := (true, "efd5f1b900d9a03fccb3fb86ab160fd844b24268c34a6cf5524149d89de2780c"), looks := false }, kinds := [], alts := [], laidByText := true, laidKinds := [.sentinel], laidTests := true, laidLooks := .later }
def FnUnsafeEndQuorumEpochResponseCardSaid : Prop := Claim7.holds Tryd.pinned (.plain (OpenSpec.ofChange fnUnsafeEndQuorumEpochResponseSpec)) fnUnsafeEndQuorumEpochResponseCard

/-- THE TIED CARD OF 'laws.FnUnsafeAlterConfigsRequest'. -/
def fnUnsafeAlterConfigsRequestCard : Claim7 := { stood := { row := fnUnsafeAlterConfigsRequestRow, standIns := [], harness := (true, "efd5f1b900d9a03fccb3fb86ab160fd844b24268c34a6cf5524149d89de2780c"), looks := false }, kinds := [], alts := [], laidByText := true, laidKinds := [.sentinel], laidTests := true, laidLooks := .later }
def FnUnsafeAlterConfigsRequestCardSaid : Prop := Claim7.holds Tryd.pinned (.plain (OpenSpec.ofChange fnUnsafeAlterConfigsRequestSpec)) fnUnsafeAlterConfigsRequestCard

/-- THE TIED CARD OF 'laws.FnUnsafeFetchSnapshotRequest'. -/
def fnUnsafeFetchSnapshotRequestCard : Claim7 := { stood := { row := fnUnsafeFetchSnapshotRequestRow, standIns := [], harness := (true, "efd5f1b900d9a03fccb3fb86ab160fd844b24268c34a6cf5524149d89de2780c"), looks := false }, kinds := [], alts := [], laidByText := true, laidKinds := [.sentinel], laidTests := true, laidLooks := .later }
def FnUnsafeFetchSnapshotRequestCardSaid : Prop := Claim7.holds Tryd.pinned (.plain (OpenSpec.ofChange fnUnsafeFetchSnapshotRequestSpec)) fnUnsafeFetchSnapshotRequestCard

/-- THE TIED CARD OF 'laws.FnUnsafeCreateTopicsResponse'. -/
def fnUnsafeCreateTopicsResponseCard : Claim7 := { stood := { row := fnUnsafeCreateTopicsResponseRow, standIns := [], harness := (true, "efd5f1b900d9a03fccb3fb86ab160fd844b24268c34a6cf5524149d89de2780c"), looks := false }, kinds := [], alts := [], laidByText := true, laidKinds := [.sentinel], laidTests := true, laidLooks := .later }
def FnUnsafeCreateTopicsResponseCardSaid : Prop := Claim7.holds Tryd.pinned (.plain (OpenSpec.ofChange fnUnsafeCreateTopicsResponseSpec)) fnUnsafeCreateTopicsResponseCard

/-- THE SECOND FORM's CARD OF 'laws.FnTellConnectMemberAssignment'. -/
def fnTellConnectMemberAssignmentUptoCard : Claim7 := { stood := { row := fnTellConnectMemberAssignmentUptoRow, standIns := [], harness := (true, "efd5f1b900d9a03fccb3fb86ab160fd844b24268c34a6cf5524149d89de2780c"), looks := false }, kinds := [], alts := [], laidByText := true, laidKinds := [.sentinel], laidTests := true, laidLooks := .later }
def FnTellConnectMemberAssignmentUptoCardSaid : Prop := Claim7.holds Tryd.pinned (.plain (OpenSpec.upto fnTellConnectMemberAssignmentSpec)) fnTellConnectMemberAssignmentUptoCard

/-- THE SECOND FORM's CARD OF 'laws.FnUnsafeLeaderChangeMessage'. -/
def fnUnsafeLeaderChangeMessageUptoCard : Claim7 := { stood := { row := fnUnsafeLeaderChangeMessageUptoRow, standIns := [], harness := (true, "efd5f1b900d9a03fccb3fb86ab160fd844b24268c34a6cf5524149d89de2780c"), looks := false }, kinds := [], alts := [], laidByText := true, laidKinds := [.sentinel], laidTests := true, laidLooks := .later }
def FnUnsafeLeaderChangeMessageUptoCardSaid : Prop := Claim7.holds Tryd.pinned (.plain (OpenSpec.upto fnUnsafeLeaderChangeMessageSpec)) fnUnsafeLeaderChangeMessageUptoCard

/-- THE SECOND FORM's CARD OF 'laws.FnUnsafeIncrementalAlterConfigsResponse'. -/
def fnUnsafeIncrementalAlterConfigsResponseUptoCard : Claim7 := { stood := { row := fnUnsafeIncrementalAlterConfigsResponseUptoRow, standIns := [], harness := (true, "efd5f1b900d9a03fccb3fb86ab160fd844b24268c34a6cf5524149d89de2780c"), looks := false }, kinds := [], alts := [], laidByText := true, laidKinds := [.sentinel], laidTests := true, laidLooks := .later }
def FnUnsafeIncrementalAlterConfigsResponseUptoCardSaid : Prop := Claim7.holds Tryd.pinned (.plain (OpenSpec.upto fnUnsafeIncrementalAlterConfigsResponseSpec)) fnUnsafeIncrementalAlterConfigsResponseUptoCard

/-- THE SECOND FORM's CARD OF 'laws.FnUnsafeDeleteTopicsResponse'. -/
def fnUnsafeDeleteTopicsResponseUptoCard : Claim7 := { stood := { row := fnUnsafeDeleteTopicsResponseUptoRow, standIns := [], harness := (true, "efd5f1b900d9a03fccb3fb86ab160fd844b24268c34a6cf5524149d89de2780c"), looks := false }, kinds := [], alts := [], laidByText := true, laidKinds := [.sentinel], laidTests := true, laidLooks := .later }
def FnUnsafeDeleteTopicsResponseUptoCardSaid : Prop := Claim7.holds Tryd.pinned (.plain (OpenSpec.upto fnUnsafeDeleteTopicsResponseSpec)) fnUnsafeDeleteTopicsResponseUptoCard

/-- THE SECOND FORM's CARD OF 'laws.FnUnsafeDescribeClientQuotasRequest'. -/
def fnUnsafeDescribeClientQuotasRequestUptoCard : Claim7 := { stood := { row := fnUnsafeDescribeClientQuotasRequestUptoRow, standIns := [], harness := (true, "efd5f1b900d9a03fccb3fb86ab160fd844b24268c34a6cf5524149d89de2780c"), looks := false }, kinds := [], alts := [], laidByText := true, laidKinds := [.sentinel], laidTests := true, laidLooks := .later }
def FnUnsafeDescribeClientQuotasRequestUptoCardSaid : Prop := Claim7.holds Tryd.pinned (.plain (OpenSpec.upto fnUnsafeDescribeClientQuotasRequestSpec)) fnUnsafeDescribeClientQuotasRequestUptoCard

/-- THE SECOND FORM's CARD OF 'laws.FnUnsafeBeginQuorumEpochResponse'. -/
def fnUnsafeBeginQuorumEpochResponseUptoCard : Claim7 := { stood := { row := fnUnsafeBeginQuorumEpochResponseUptoRow, standIns := [], harness := (true, "efd5f1b900d9a03fccb3fb86ab160fd844b24268c34a6cf5524149d89de2780c"), looks := false }, kinds := [], alts := [], laidByText := true, laidKinds := [.sentinel], laidTests := true, laidLooks := .later }
def FnUnsafeBeginQuorumEpochResponseUptoCardSaid : Prop := Claim7.holds Tryd.pinned (.plain (OpenSpec.upto fnUnsafeBeginQuorumEpochResponseSpec)) fnUnsafeBeginQuorumEpochResponseUptoCard

/-- THE SECOND FORM's CARD OF 'laws.FnUnsafeEndQuorumEpochResponse'. -/
def fnUnsafeEndQuorumEpochResponseUptoCard : Claim7 := { stood := { row := fnUnsafeEndQuorumEpochResponseUptoRow, standIns := [], harness := (true, "efd5f1b900d9a03fccb3fb86ab160fd844b24268c34a6cf5524149d89de2780c"), looks := false }, kinds := [], alts := [], laidByText := true, laidKinds := [.sentinel], laidTests := true, laidLooks := .later }
def FnUnsafeEndQuorumEpochResponseUptoCardSaid : Prop := Claim7.holds Tryd.pinned (.plain (OpenSpec.upto fnUnsafeEndQuorumEpochResponseSpec)) fnUnsafeEndQuorumEpochResponseUptoCard

/-- THE SECOND FORM's CARD OF 'laws.FnUnsafeAlterConfigsRequest'. -/
def fnUnsafeAlterConfigsRequestUptoCard : Claim7 := { stood := { row := fnUnsafeAlterConfigsRequestUptoRow, standIns := [], harness := (true, "efd5f1b900d9a03fccb3fb86ab160fd844b24268c34a6cf5524149d89de2780c"), looks := false }, kinds := [], alts := [], laidByText := true, laidKinds := [.sentinel], laidTests := true, laidLooks := .later }
def FnUnsafeAlterConfigsRequestUptoCardSaid : Prop := Claim7.holds Tryd.pinned (.plain (OpenSpec.upto fnUnsafeAlterConfigsRequestSpec)) fnUnsafeAlterConfigsRequestUptoCard

/-- THE SECOND FORM's CARD OF 'laws.FnUnsafeFetchSnapshotRequest'. -/
def fnUnsafeFetchSnapshotRequestUptoCard : Claim7 := { stood := { row := fnUnsafeFetchSnapshotRequestUptoRow, standIns := [], harness := (true, "efd5f1b900d9a03fccb3fb86ab160fd844b24268c34a6cf5524149d89de2780c"), looks := false }, kinds := [], alts := [], laidByText := true, laidKinds := [.sentinel], laidTests := true, laidLooks := .later }
def FnUnsafeFetchSnapshotRequestUptoCardSaid : Prop := Claim7.holds Tryd.pinned (.plain (OpenSpec.upto fnUnsafeFetchSnapshotRequestSpec)) fnUnsafeFetchSnapshotRequestUptoCard

/-- THE SECOND FORM's CARD OF 'laws.FnUnsafeCreateTopicsResponse'. -/
def fnUnsafeCreateTopicsResponseUptoCard : Claim7 := { stood := { row := fnUnsafeCreateTopicsResponseUptoRow, standIns := [], harness := (true, "efd5f1b900d9a03fccb3fb86ab160fd844b24268c34a6cf5524149d89de2780c"), looks := false }, kinds := [], alts := [], laidByText := true, laidKinds := [.sentinel], laidTests := true, laidLooks := .later }
def FnUnsafeCreateTopicsResponseUptoCardSaid : Prop := Claim7.holds Tryd.pinned (.plain (OpenSpec.upto fnUnsafeCreateTopicsResponseSpec)) fnUnsafeCreateTopicsResponseUptoCard
end Rows
end Go.Proofs.YtdlfgheckhmgiaaDoor
