/-
  DERIVED. GIVEN WITH THE SEED: THE CARDS: each row of YtfgfenphgeffgaaDoorRows.lean that lists a variable, with what it lists TIED to the program's text (the seventh form; the later family's looks); each row that meets fmt, with fmt's text TOLD by the authors' own Lean function (tested against real Go, not proved from fmt's source: count such statements apart). THE CARD IS WHAT COUNTS. Prove the row's statement (the work); the ties are given (YtfgfenphgeffgaaDoorTie.lean); close each card by the builder's one call (the guide's Derived/Test/ToyasCard.lean, 'card_holds'). Laid BY PROGRAM, IN A SANDBOX (cutbox-door.mjs). By AI agents, Wed Nov 11 2026. No macro, syntax, notation, axiom, sorry.
-/
import Derived.Test.YtfgfenphgeffgaaDoorRows
import GoSem.ClaimSeven
namespace Go.Proofs.YtfgfenphgeffgaaDoor
namespace Rows

/-- THE TIED CARD OF 'laws.FnUnsafeIncrementalAlterConfigsResponse'. -/
def fnUnsafeIncrementalAlterConfigsResponseCard : Claim7 := { stood := { row := fnUnsafeIncrementalAlterConfigsResponseRow, standIns := [], harness := (true, "d014bc3aef9e43ef89943df42939b8474bbfa78d2e60721ccc0c8db86c9a1b13"), looks := false }, kinds := [], alts := [], laidByText := true, laidKinds := [.sentinel], laidTests := true, laidLooks := .later }
def FnUnsafeIncrementalAlterConfigsResponseCardSaid : Prop := Claim7.holds Tryd.pinned (.plain (OpenSpec.ofChange fnUnsafeIncrementalAlterConfigsResponseSpec)) fnUnsafeIncrementalAlterConfigsResponseCard

/-- THE TIED CARD OF 'laws.FnUnsafeListTransactionsResponse'. -/
def fnUnsafeListTransactionsResponseCard : Claim7 := { stood := { row := fnUnsafeListTransactionsResponseRow, standIns := [], harness := (true, "d014bc3aef9e43ef89943df42939b8474bbfa78d2e60721ccc0c8db86c9a1b13"), looks := false }, kinds := [], alts := [], laidByText := true, laidKinds := [.sentinel], laidTests := true, laidLooks := .later }
def FnUnsafeListTransactionsResponseCardSaid : Prop := Claim7.holds Tryd.pinned (.plain (OpenSpec.ofChange fnUnsafeListTransactionsResponseSpec)) fnUnsafeListTransactionsResponseCard

/-- THE TIED CARD OF 'laws.FnUnsafeDeleteTopicsResponse'. -/
def fnUnsafeDeleteTopicsResponseCard : Claim7 := { stood := { row := fnUnsafeDeleteTopicsResponseRow, standIns := [], harness := (true, "d014bc3aef9e43ef89943df42939b8474bbfa78d2e60721ccc0c8db86c9a1b13"), looks := false }, kinds := [], alts := [], laidByText := true, laidKinds := [.sentinel], laidTests := true, laidLooks := .later }
def FnUnsafeDeleteTopicsResponseCardSaid : Prop := Claim7.holds Tryd.pinned (.plain (OpenSpec.ofChange fnUnsafeDeleteTopicsResponseSpec)) fnUnsafeDeleteTopicsResponseCard

/-- THE TIED CARD OF 'laws.FnUnsafeDescribeClientQuotasRequest'. -/
def fnUnsafeDescribeClientQuotasRequestCard : Claim7 := { stood := { row := fnUnsafeDescribeClientQuotasRequestRow, standIns := [], harness := (true, "d014bc3aef9e43ef89943df42939b8474bbfa78d2e60721ccc0c8db86c9a1b13"), looks := false }, kinds := [], alts := [], laidByText := true, laidKinds := [.sentinel], laidTests := true, laidLooks := .later }
def FnUnsafeDescribeClientQuotasRequestCardSaid : Prop := Claim7.holds Tryd.pinned (.plain (OpenSpec.ofChange fnUnsafeDescribeClientQuotasRequestSpec)) fnUnsafeDescribeClientQuotasRequestCard

/-- THE TIED CARD OF 'laws.FnUnsafeDescribeTransactionsResponse'. -/
def fnUnsafeDescribeTransactionsResponseCard : Claim7 := { stood := { row := fnUnsafeDescribeTransactionsResponseRow, standIns := [], harness := (true, "d014bc3aef9e43ef89943df42939b8474bbfa78d2e60721ccc0c8db86c9a1b13"), looks := false }, kinds := [], alts := [], laidByText := true, laidKinds := [.sentinel], laidTests := true, laidLooks := .later }
def FnUnsafeDescribeTransactionsResponseCardSaid : Prop := Claim7.holds Tryd.pinned (.plain (OpenSpec.ofChange fnUnsafeDescribeTransactionsResponseSpec)) fnUnsafeDescribeTransactionsResponseCard

/-- THE TIED CARD OF 'laws.FnUnsafeBeginQuorumEpochResponse'. -/
def fnUnsafeBeginQuorumEpochResponseCard : Claim7 := { stood := { row := fnUnsafeBeginQuorumEpochResponseRow, standIns := [], harness := (true, "d014bc3aef9e43ef89943df42939b8474bbfa78d2e60721ccc0c8db86c9a1b13"), looks := false }, kinds := [], alts := [], laidByText := true, laidKinds := [.sentinel], laidTests := true, laidLooks := .later }
def FnUnsafeBeginQuorumEpochResponseCardSaid : Prop := Claim7.holds Tryd.pinned (.plain (OpenSpec.ofChange fnUnsafeBeginQuorumEpochResponseSpec)) fnUnsafeBeginQuorumEpochResponseCard

/-- THE TIED CARD OF 'laws.FnUnsafeEndQuorumEpochResponse'. -/
def fnUnsafeEndQuorumEpochResponseCard : Claim7 := { stood := { row := fnUnsafeEndQuorumEpochResponseRow, standIns := [], harness := (true, "d014bc3aef9e43ef89943df42939b8474bbfa78d2e60721ccc0c8db86c9a1b13"), looks := false }, kinds := [], alts := [], laidByText := true, laidKinds := [.sentinel], laidTests := true, laidLooks := .later }
def FnUnsafeEndQuorumEpochResponseCardSaid : Prop := Claim7.holds Tryd.pinned (.plain (OpenSpec.ofChange fnUnsafeEndQuorumEpochResponseSpec)) fnUnsafeEndQuorumEpochResponseCard

/-- THE TIED CARD OF 'laws.FnUnsafeAlterConfigsRequest'. -/
def fnUnsafeAlterConfigsRequestCard : Claim7 := { stood := { row := fnUnsafeAlterConfigsRequestRow, standIns := [], harness := (true, "d014bc3aef9e43ef89943df42939b8474bbfa78d2e60721ccc0c8db86c9a1b13"), looks := false }, kinds := [], alts := [], laidByText := true, laidKinds := [.sentinel], laidTests := true, laidLooks := .later }
def FnUnsafeAlterConfigsRequestCardSaid : Prop := Claim7.holds Tryd.pinned (.plain (OpenSpec.ofChange fnUnsafeAlterConfigsRequestSpec)) fnUnsafeAlterConfigsRequestCard

/-- THE TIED CARD OF 'laws.FnUnsafeFetchSnapshotRequest'. -/
def fnUnsafeFetchSnapshotRequestCard : Claim7 := { stood := { row := fnUnsafeFetchSnapshotRequestRow, standIns := [], harness := (true, "d014bc3aef9e43ef89943df42939b8474bbfa78d2e60721ccc0c8db86c9a1b13"), looks := false }, kinds := [], alts := [], laidByText := true, laidKinds := [.sentinel], laidTests := true, laidLooks := .later }
def FnUnsafeFetchSnapshotRequestCardSaid : Prop := Claim7.holds Tryd.pinned (.plain (OpenSpec.ofChange fnUnsafeFetchSnapshotRequestSpec)) fnUnsafeFetchSnapshotRequestCard

/-- THE TIED CARD OF 'laws.FnUnsafeOffsetCommitRequest'. -/
def fnUnsafeOffsetCommitRequestCard : Claim7 := { stood := { row := fnUnsafeOffsetCommitRequestRow, standIns := [], harness := (true, "d014bc3aef9e43ef89943df42939b8474bbfa78d2e60721ccc0c8db86c9a1b13"), looks := false }, kinds := [], alts := [], laidByText := true, laidKinds := [.sentinel], laidTests := true, laidLooks := .later }
def FnUnsafeOffsetCommitRequestCardSaid : Prop := Claim7.holds Tryd.pinned (.plain (OpenSpec.ofChange fnUnsafeOffsetCommitRequestSpec)) fnUnsafeOffsetCommitRequestCard

/-- THE TIED CARD OF 'laws.FnUnsafeCreateTopicsResponse'. -/
def fnUnsafeCreateTopicsResponseCard : Claim7 := { stood := { row := fnUnsafeCreateTopicsResponseRow, standIns := [], harness := (true, "d014bc3aef9e43ef89943df42939b8474bbfa78d2e60721ccc0c8db86c9a1b13"), looks := false }, kinds := [], alts := [], laidByText := true, laidKinds := [.sentinel], laidTests := true, laidLooks := .later }
def FnUnsafeCreateTopicsResponseCardSaid : Prop := Claim7.holds Tryd.pinned (.plain (OpenSpec.ofChange fnUnsafeCreateTopicsResponseSpec)) fnUnsafeCreateTopicsResponseCard

/-- THE TIED CARD OF 'laws.FnUnsafeTxnOffsetCommitRequest'. -/
def fnUnsafeTxnOffsetCommitRequestCard : Claim7 := { stood := { row := fnUnsafeTxnOffsetCommitRequestRow, standIns := [], harness := (true, "d014bc3aef9e43ef89943df42939b8474bbfa78d2e60721ccc0c8db86c9a1b13"), looks := false }, kinds := [], alts := [], laidByText := true, laidKinds := [.sentinel], laidTests := true, laidLooks := .later }
def FnUnsafeTxnOffsetCommitRequestCardSaid : Prop := Claim7.holds Tryd.pinned (.plain (OpenSpec.ofChange fnUnsafeTxnOffsetCommitRequestSpec)) fnUnsafeTxnOffsetCommitRequestCard

/-- THE SECOND FORM's CARD OF 'laws.FnUnsafeIncrementalAlterConfigsResponse'. -/
def fnUnsafeIncrementalAlterConfigsResponseUptoCard : Claim7 := { stood := { row := fnUnsafeIncrementalAlterConfigsResponseUptoRow, standIns := [], harness := (true, "d014bc3aef9e43ef89943df42939b8474bbfa78d2e60721ccc0c8db86c9a1b13"), looks := false }, kinds := [], alts := [], laidByText := true, laidKinds := [.sentinel], laidTests := true, laidLooks := .later }
def FnUnsafeIncrementalAlterConfigsResponseUptoCardSaid : Prop := Claim7.holds Tryd.pinned (.plain (OpenSpec.upto fnUnsafeIncrementalAlterConfigsResponseSpec)) fnUnsafeIncrementalAlterConfigsResponseUptoCard

/-- THE SECOND FORM's CARD OF 'laws.FnUnsafeListTransactionsResponse'. -/
def fnUnsafeListTransactionsResponseUptoCard : Claim7 := { stood := { row := fnUnsafeListTransactionsResponseUptoRow, standIns := [], harness := (true, "d014bc3aef9e43ef89943df42939b8474bbfa78d2e60721ccc0c8db86c9a1b13"), looks := false }, kinds := [], alts := [], laidByText := true, laidKinds := [.sentinel], laidTests := true, laidLooks := .later }
def FnUnsafeListTransactionsResponseUptoCardSaid : Prop := Claim7.holds Tryd.pinned (.plain (OpenSpec.upto fnUnsafeListTransactionsResponseSpec)) fnUnsafeListTransactionsResponseUptoCard

/-- THE SECOND FORM's CARD OF 'laws.FnUnsafeDeleteTopicsResponse'. -/
def fnUnsafeDeleteTopicsResponseUptoCard : Claim7 := { stood := { row := fnUnsafeDeleteTopicsResponseUptoRow, standIns := [], harness := (true, "d014bc3aef9e43ef89943df42939b8474bbfa78d2e60721ccc0c8db86c9a1b13"), looks := false }, kinds := [], alts := [], laidByText := true, laidKinds := [.sentinel], laidTests := true, laidLooks := .later }
def FnUnsafeDeleteTopicsResponseUptoCardSaid : Prop := Claim7.holds Tryd.pinned (.plain (OpenSpec.upto fnUnsafeDeleteTopicsResponseSpec)) fnUnsafeDeleteTopicsResponseUptoCard

/-- THE SECOND FORM's CARD OF 'laws.FnUnsafeDescribeClientQuotasRequest'. -/
def fnUnsafeDescribeClientQuotasRequestUptoCard : Claim7 := { stood := { row := fnUnsafeDescribeClientQuotasRequestUptoRow, standIns := [], harness := (true, "d014bc3aef9e43ef89943df42939b8474bbfa78d2e60721ccc0c8db86c9a1b13"), looks := false }, kinds := [], alts := [], laidByText := true, laidKinds := [.sentinel], laidTests := true, laidLooks := .later }
def FnUnsafeDescribeClientQuotasRequestUptoCardSaid : Prop := Claim7.holds Tryd.pinned (.plain (OpenSpec.upto fnUnsafeDescribeClientQuotasRequestSpec)) fnUnsafeDescribeClientQuotasRequestUptoCard

/-- THE SECOND FORM's CARD OF 'laws.FnUnsafeDescribeTransactionsResponse'. -/
def fnUnsafeDescribeTransactionsResponseUptoCard : Claim7 := { stood := { row := fnUnsafeDescribeTransactionsResponseUptoRow, standIns := [], harness := (true, "d014bc3aef9e43ef89943df42939b8474bbfa78d2e60721ccc0c8db86c9a1b13"), looks := false }, kinds := [], alts := [], laidByText := true, laidKinds := [.sentinel], laidTests := true, laidLooks := .later }
def FnUnsafeDescribeTransactionsResponseUptoCardSaid : Prop := Claim7.holds Tryd.pinned (.plain (OpenSpec.upto fnUnsafeDescribeTransactionsResponseSpec)) fnUnsafeDescribeTransactionsResponseUptoCard

/-- THE SECOND FORM's CARD OF 'laws.FnUnsafeBeginQuorumEpochResponse'. -/
def fnUnsafeBeginQuorumEpochResponseUptoCard : Claim7 := { stood := { row := fnUnsafeBeginQuorumEpochResponseUptoRow, standIns := [], harness := (true, "d014bc3aef9e43ef89943df42939b8474bbfa78d2e60721ccc0c8db86c9a1b13"), looks := false }, kinds := [], alts := [], laidByText := true, laidKinds := [.sentinel], laidTests := true, laidLooks := .later }
def FnUnsafeBeginQuorumEpochResponseUptoCardSaid : Prop := Claim7.holds Tryd.pinned (.plain (OpenSpec.upto fnUnsafeBeginQuorumEpochResponseSpec)) fnUnsafeBeginQuorumEpochResponseUptoCard

/-- THE SECOND FORM's CARD OF 'laws.FnUnsafeEndQuorumEpochResponse'. -/
def fnUnsafeEndQuorumEpochResponseUptoCard : Claim7 := { stood := { row := fnUnsafeEndQuorumEpochResponseUptoRow, standIns := [], harness := (true, "d014bc3aef9e43ef89943df42939b8474bbfa78d2e60721ccc0c8db86c9a1b13"), looks := false }, kinds := [], alts := [], laidByText := true, laidKinds := [.sentinel], laidTests := true, laidLooks := .later }
def FnUnsafeEndQuorumEpochResponseUptoCardSaid : Prop := Claim7.holds Tryd.pinned (.plain (OpenSpec.upto fnUnsafeEndQuorumEpochResponseSpec)) fnUnsafeEndQuorumEpochResponseUptoCard

/-- THE SECOND FORM's CARD OF 'laws.FnUnsafeAlterConfigsRequest'. -/
def fnUnsafeAlterConfigsRequestUptoCard : Claim7 := { stood := { row := fnUnsafeAlterConfigsRequestUptoRow, standIns := [], harness := (true, "d014bc3aef9e43ef89943df42939b8474bbfa78d2e60721ccc0c8db86c9a1b13"), looks := false }, kinds := [], alts := [], laidByText := true, laidKinds := [.sentinel], laidTests := true, laidLooks := .later }
def FnUnsafeAlterConfigsRequestUptoCardSaid : Prop := Claim7.holds Tryd.pinned (.plain (OpenSpec.upto fnUnsafeAlterConfigsRequestSpec)) fnUnsafeAlterConfigsRequestUptoCard

/-- THE SECOND FORM's CARD OF 'laws.FnUnsafeFetchSnapshotRequest'. -/
def fnUnsafeFetchSnapshotRequestUptoCard : Claim7 := { stood := { row := fnUnsafeFetchSnapshotRequestUptoRow, standIns := [], harness := (true, "d014bc3aef9e43ef89943df42939b8474bbfa78d2e60721ccc0c8db86c9a1b13"), looks := false }, kinds := [], alts := [], laidByText := true, laidKinds := [.sentinel], laidTests := true, laidLooks := .later }
def FnUnsafeFetchSnapshotRequestUptoCardSaid : Prop := Claim7.holds Tryd.pinned (.plain (OpenSpec.upto fnUnsafeFetchSnapshotRequestSpec)) fnUnsafeFetchSnapshotRequestUptoCard

/-- THE SECOND FORM's CARD OF 'laws.FnUnsafeOffsetCommitRequest'. -/
def fnUnsafeOffsetCommitRequestUptoCard : Claim7 := { stood := { row := fnUnsafeOffsetCommitRequestUptoRow, standIns := [], harness := (true, "d014bc3aef9e43ef89943df42939b8474bbfa78d2e60721ccc0c8db86c9a1b13"), looks := false }, kinds := [], alts := [], laidByText := true, laidKinds := [.sentinel], laidTests := true, laidLooks := .later }
def FnUnsafeOffsetCommitRequestUptoCardSaid : Prop := Claim7.holds Tryd.pinned (.plain (OpenSpec.upto fnUnsafeOffsetCommitRequestSpec)) fnUnsafeOffsetCommitRequestUptoCard

/-- THE SECOND FORM's CARD OF 'laws.FnUnsafeCreateTopicsResponse'. -/
def fnUnsafeCreateTopicsResponseUptoCard : Claim7 := { stood := { row := fnUnsafeCreateTopicsResponseUptoRow, standIns := [], harness := (true, "d014bc3aef9e43ef89943df42939b8474bbfa78d2e60721ccc0c8db86c9a1b13"), looks := false }, kinds := [], alts := [], laidByText := true, laidKinds := [.sentinel], laidTests := true, laidLooks := .later }
def FnUnsafeCreateTopicsResponseUptoCardSaid : Prop := Claim7.holds Tryd.pinned (.plain (OpenSpec.upto fnUnsafeCreateTopicsResponseSpec)) fnUnsafeCreateTopicsResponseUptoCard

/-- THE SECOND FORM's CARD OF 'laws.FnUnsafeTxnOffsetCommitRequest'. -/
def fnUnsafeTxnOffsetCommitRequestUptoCard : Claim7 := { stood := { row := fnUnsafeTxnOffsetCommitRequestUptoRow, standIns := [], harness := (true, "d014bc3aef9e43ef89943df42939b8474bbfa78d2e60721ccc0c8db86c9a1b13"), looks := false }, kinds := [], alts := [], laidByText := true, laidKinds := [.sentinel], laidTests := true, laidLooks := .later }
def FnUnsafeTxnOffsetCommitRequestUptoCardSaid : Prop := Claim7.holds Tryd.pinned (.plain (OpenSpec.upto fnUnsafeTxnOffsetCommitRequestSpec)) fnUnsafeTxnOffsetCommitRequestUptoCard
end Rows
end Go.Proofs.YtfgfenphgeffgaaDoor
