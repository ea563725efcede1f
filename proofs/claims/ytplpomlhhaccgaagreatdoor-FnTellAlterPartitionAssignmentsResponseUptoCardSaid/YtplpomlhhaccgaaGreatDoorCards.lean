/-
  DERIVED. GIVEN WITH THE SEED: THE CARDS: each row of YtplpomlhhaccgaaGreatDoorRows.lean that lists a variable, with what it lists TIED to the program's text (the seventh form; the later family's looks); each row that meets fmt, with fmt's text TOLD by the authors' own Lean function (tested against real Go, not proved from fmt's source: count such statements apart). THE CARD IS WHAT COUNTS. Prove the row's statement (the work); the ties are given (YtplpomlhhaccgaaGreatDoorTie.lean); close each card by the builder's one call (the guide's Derived/Test/ToyasCard.lean, 'card_holds'). Laid BY PROGRAM, IN A SANDBOX (cutbox-door.mjs). By AI agents, Wed Nov 11 2026. No macro, syntax, notation, axiom, sorry.
-/
import Derived.Test.YtplpomlhhaccgaaGreatDoorRows
import GoSem.ClaimSeven
namespace Go.Proofs.YtplpomlhhaccgaaGreatDoor
namespace Rows

/-- THE TIED CARD OF 'laws.FnTellApiVersionsRequest'. -/
def fnTellApiVersionsRequestCard : Claim7 := { stood := { row := fnTellApiVersionsRequestRow, standIns := [], harness := (true, "c0dd0f323091ab6495981dfac2aeb0fadfc7364e714201ebd093452797e7739a"), looks := false }, kinds := [], alts := [], laidByText := true, laidKinds := [.sentinel], laidTests := true, laidLooks := .later }
def FnTellApiVersionsRequestCardSaid : Prop := Claim7.holds Tryz.pinned (.plain (OpenSpec.ofChange fnTellApiVersionsRequestSpec)) fnTellApiVersionsRequestCard

/-- THE TIED CARD OF 'laws.FnTellDescribeDelegationTokenRequest'. -/
def fnTellDescribeDelegationTokenRequestCard : Claim7 := { stood := { row := fnTellDescribeDelegationTokenRequestRow, standIns := [], harness := (true, "c0dd0f323091ab6495981dfac2aeb0fadfc7364e714201ebd093452797e7739a"), looks := false }, kinds := [], alts := [], laidByText := true, laidKinds := [.sentinel], laidTests := true, laidLooks := .later }
def FnTellDescribeDelegationTokenRequestCardSaid : Prop := Claim7.holds Tryz.pinned (.plain (OpenSpec.ofChange fnTellDescribeDelegationTokenRequestSpec)) fnTellDescribeDelegationTokenRequestCard

/-- THE TIED CARD OF 'laws.FnTellReadShareGroupStateRequest'. -/
def fnTellReadShareGroupStateRequestCard : Claim7 := { stood := { row := fnTellReadShareGroupStateRequestRow, standIns := [], harness := (true, "c0dd0f323091ab6495981dfac2aeb0fadfc7364e714201ebd093452797e7739a"), looks := false }, kinds := [], alts := [], laidByText := true, laidKinds := [.sentinel], laidTests := true, laidLooks := .later }
def FnTellReadShareGroupStateRequestCardSaid : Prop := Claim7.holds Tryz.pinned (.plain (OpenSpec.ofChange fnTellReadShareGroupStateRequestSpec)) fnTellReadShareGroupStateRequestCard

/-- THE TIED CARD OF 'laws.FnTellInitializeShareGroupStateRequest'. -/
def fnTellInitializeShareGroupStateRequestCard : Claim7 := { stood := { row := fnTellInitializeShareGroupStateRequestRow, standIns := [], harness := (true, "c0dd0f323091ab6495981dfac2aeb0fadfc7364e714201ebd093452797e7739a"), looks := false }, kinds := [], alts := [], laidByText := true, laidKinds := [.sentinel], laidTests := true, laidLooks := .later }
def FnTellInitializeShareGroupStateRequestCardSaid : Prop := Claim7.holds Tryz.pinned (.plain (OpenSpec.ofChange fnTellInitializeShareGroupStateRequestSpec)) fnTellInitializeShareGroupStateRequestCard

/-- THE TIED CARD OF 'laws.FnTellReadShareGroupStateSummaryResponse'. -/
def fnTellReadShareGroupStateSummaryResponseCard : Claim7 := { stood := { row := fnTellReadShareGroupStateSummaryResponseRow, standIns := [], harness := (true, "c0dd0f323091ab6495981dfac2aeb0fadfc7364e714201ebd093452797e7739a"), looks := false }, kinds := [], alts := [], laidByText := true, laidKinds := [.sentinel], laidTests := true, laidLooks := .later }
def FnTellReadShareGroupStateSummaryResponseCardSaid : Prop := Claim7.holds Tryz.pinned (.plain (OpenSpec.ofChange fnTellReadShareGroupStateSummaryResponseSpec)) fnTellReadShareGroupStateSummaryResponseCard

/-- THE TIED CARD OF 'laws.FnTellFindCoordinatorResponse'. -/
def fnTellFindCoordinatorResponseCard : Claim7 := { stood := { row := fnTellFindCoordinatorResponseRow, standIns := [], harness := (true, "c0dd0f323091ab6495981dfac2aeb0fadfc7364e714201ebd093452797e7739a"), looks := false }, kinds := [], alts := [], laidByText := true, laidKinds := [.sentinel], laidTests := true, laidLooks := .later }
def FnTellFindCoordinatorResponseCardSaid : Prop := Claim7.holds Tryz.pinned (.plain (OpenSpec.ofChange fnTellFindCoordinatorResponseSpec)) fnTellFindCoordinatorResponseCard

/-- THE TIED CARD OF 'laws.FnTellAlterPartitionAssignmentsResponse'. -/
def fnTellAlterPartitionAssignmentsResponseCard : Claim7 := { stood := { row := fnTellAlterPartitionAssignmentsResponseRow, standIns := [], harness := (true, "c0dd0f323091ab6495981dfac2aeb0fadfc7364e714201ebd093452797e7739a"), looks := false }, kinds := [], alts := [], laidByText := true, laidKinds := [.sentinel], laidTests := true, laidLooks := .later }
def FnTellAlterPartitionAssignmentsResponseCardSaid : Prop := Claim7.holds Tryz.pinned (.plain (OpenSpec.ofChange fnTellAlterPartitionAssignmentsResponseSpec)) fnTellAlterPartitionAssignmentsResponseCard

/-- THE SECOND FORM's CARD OF 'laws.FnTellApiVersionsRequest'. -/
def fnTellApiVersionsRequestUptoCard : Claim7 := { stood := { row := fnTellApiVersionsRequestUptoRow, standIns := [], harness := (true, "c0dd0f323091ab6495981dfac2aeb0fadfc7364e714201ebd093452797e7739a"), looks := false }, kinds := [], alts := [], laidByText := true, laidKinds := [.sentinel], laidTests := true, laidLooks := .later }
def FnTellApiVersionsRequestUptoCardSaid : Prop := Claim7.holds Tryz.pinned (.plain (OpenSpec.upto fnTellApiVersionsRequestSpec)) fnTellApiVersionsRequestUptoCard

/-- THE SECOND FORM's CARD OF 'laws.FnTellDescribeDelegationTokenRequest'. -/
def fnTellDescribeDelegationTokenRequestUptoCard : Claim7 := { stood := { row := fnTellDescribeDelegationTokenRequestUptoRow, standIns := [], harness := (true, "c0dd0f323091ab6495981dfac2aeb0fadfc7364e714201ebd093452797e7739a"), looks := false }, kinds := [], alts := [], laidByText := true, laidKinds := [.sentinel], laidTests := true, laidLooks := .later }
def FnTellDescribeDelegationTokenRequestUptoCardSaid : Prop := Claim7.holds Tryz.pinned (.plain (OpenSpec.upto fnTellDescribeDelegationTokenRequestSpec)) fnTellDescribeDelegationTokenRequestUptoCard

/-- THE SECOND FORM's CARD OF 'laws.FnTellReadShareGroupStateRequest'. -/
def fnTellReadShareGroupStateRequestUptoCard : Claim7 := { stood := { row := fnTellReadShareGroupStateRequestUptoRow, standIns := [], harness := (true, "c0dd0f323091ab6495981dfac2aeb0fadfc7364e714201ebd093452797e7739a"), looks := false }, kinds := [], alts := [], laidByText := true, laidKinds := [.sentinel], laidTests := true, laidLooks := .later }
def FnTellReadShareGroupStateRequestUptoCardSaid : Prop := Claim7.holds Tryz.pinned (.plain (OpenSpec.upto fnTellReadShareGroupStateRequestSpec)) fnTellReadShareGroupStateRequestUptoCard

/-- THE SECOND FORM's CARD OF 'laws.FnTellInitializeShareGroupStateRequest'. -/
def fnTellInitializeShareGroupStateRequestUptoCard : Claim7 := { stood := { row := fnTellInitializeShareGroupStateRequestUptoRow, standIns := [], harness := (true, "c0dd0f323091ab6495981dfac2aeb0fadfc7364e714201ebd093452797e7739a"), looks := false }, kinds := [], alts := [], laidByText := true, laidKinds := [.sentinel], laidTests := true, laidLooks := .later }
def FnTellInitializeShareGroupStateRequestUptoCardSaid : Prop := Claim7.holds Tryz.pinned (.plain (OpenSpec.upto fnTellInitializeShareGroupStateRequestSpec)) fnTellInitializeShareGroupStateRequestUptoCard

/-- THE SECOND FORM's CARD OF 'laws.FnTellReadShareGroupStateSummaryResponse'. -/
def fnTellReadShareGroupStateSummaryResponseUptoCard : Claim7 := { stood := { row := fnTellReadShareGroupStateSummaryResponseUptoRow, standIns := [], harness := (true, "c0dd0f323091ab6495981dfac2aeb0fadfc7364e714201ebd093452797e7739a"), looks := false }, kinds := [], alts := [], laidByText := true, laidKinds := [.sentinel], laidTests := true, laidLooks := .later }
def FnTellReadShareGroupStateSummaryResponseUptoCardSaid : Prop := Claim7.holds Tryz.pinned (.plain (OpenSpec.upto fnTellReadShareGroupStateSummaryResponseSpec)) fnTellReadShareGroupStateSummaryResponseUptoCard

/-- THE SECOND FORM's CARD OF 'laws.FnTellFindCoordinatorResponse'. -/
def fnTellFindCoordinatorResponseUptoCard : Claim7 := { stood := { row := fnTellFindCoordinatorResponseUptoRow, standIns := [], harness := (true, "c0dd0f323091ab6495981dfac2aeb0fadfc7364e714201ebd093452797e7739a"), looks := false }, kinds := [], alts := [], laidByText := true, laidKinds := [.sentinel], laidTests := true, laidLooks := .later }
def FnTellFindCoordinatorResponseUptoCardSaid : Prop := Claim7.holds Tryz.pinned (.plain (OpenSpec.upto fnTellFindCoordinatorResponseSpec)) fnTellFindCoordinatorResponseUptoCard

/-- THE SECOND FORM's CARD OF 'laws.FnTellAlterPartitionAssignmentsResponse'. -/
def fnTellAlterPartitionAssignmentsResponseUptoCard : Claim7 := { stood := { row := fnTellAlterPartitionAssignmentsResponseUptoRow, standIns := [], harness := (true, "c0dd0f323091ab6495981dfac2aeb0fadfc7364e714201ebd093452797e7739a"), looks := false }, kinds := [], alts := [], laidByText := true, laidKinds := [.sentinel], laidTests := true, laidLooks := .later }
def FnTellAlterPartitionAssignmentsResponseUptoCardSaid : Prop := Claim7.holds Tryz.pinned (.plain (OpenSpec.upto fnTellAlterPartitionAssignmentsResponseSpec)) fnTellAlterPartitionAssignmentsResponseUptoCard
end Rows
end Go.Proofs.YtplpomlhhaccgaaGreatDoor
