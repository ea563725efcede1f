/-
  DERIVED. GIVEN WITH THE SEED: THE CARDS: each row of YtgmhkfdpdbecmaaGreatDoorRows.lean that lists a variable, with what it lists TIED to the program's text (the seventh form; the later family's looks); each row that meets fmt, with fmt's text TOLD by the authors' own Lean function (tested against real Go, not proved from fmt's source: count such statements apart). THE CARD IS WHAT COUNTS. Prove the row's statement (the work); the ties are given (YtgmhkfdpdbecmaaGreatDoorTie.lean); close each card by the builder's one call (the guide's Derived/Test/ToyasCard.lean, 'card_holds'). Laid BY PROGRAM, IN A SANDBOX (cutbox-door.mjs). By AI agents, Wed Nov 11 2026. No macro, syntax, notation, axiom, sorry.
-/
import Derived.Test.YtgmhkfdpdbecmaaGreatDoorRows
import GoSem.ClaimSeven
namespace Go.Proofs.YtgmhkfdpdbecmaaGreatDoor
namespace Rows

/-- THE TIED CARD OF 'laws.FnBehindDeleteGroupsRequest'. -/
def fnBehindDeleteGroupsRequestCard : Claim7 := { stood := { row := fnBehindDeleteGroupsRequestRow, standIns := [], harness := (true, "70d0a655172f5abc621e7b5933963789846c7d2852d1162bae72725190471a57"), looks := false }, kinds := [], alts := [], laidByText := true, laidKinds := [.sentinel], laidTests := true, laidLooks := .later }
def FnBehindDeleteGroupsRequestCardSaid : Prop := Claim7.holds Tryz.pinned (.plain (OpenSpec.ofChange fnBehindDeleteGroupsRequestSpec)) fnBehindDeleteGroupsRequestCard

/-- THE TIED CARD OF 'laws.FnBehindCreateACLsResponse'. -/
def fnBehindCreateACLsResponseCard : Claim7 := { stood := { row := fnBehindCreateACLsResponseRow, standIns := [], harness := (true, "70d0a655172f5abc621e7b5933963789846c7d2852d1162bae72725190471a57"), looks := false }, kinds := [], alts := [], laidByText := true, laidKinds := [.sentinel], laidTests := true, laidLooks := .later }
def FnBehindCreateACLsResponseCardSaid : Prop := Claim7.holds Tryz.pinned (.plain (OpenSpec.ofChange fnBehindCreateACLsResponseSpec)) fnBehindCreateACLsResponseCard

/-- THE TIED CARD OF 'laws.FnBehindDeleteShareGroupStateRequest'. -/
def fnBehindDeleteShareGroupStateRequestCard : Claim7 := { stood := { row := fnBehindDeleteShareGroupStateRequestRow, standIns := [], harness := (true, "70d0a655172f5abc621e7b5933963789846c7d2852d1162bae72725190471a57"), looks := false }, kinds := [], alts := [], laidByText := true, laidKinds := [.sentinel], laidTests := true, laidLooks := .later }
def FnBehindDeleteShareGroupStateRequestCardSaid : Prop := Claim7.holds Tryz.pinned (.plain (OpenSpec.ofChange fnBehindDeleteShareGroupStateRequestSpec)) fnBehindDeleteShareGroupStateRequestCard

/-- THE TIED CARD OF 'laws.FnBehindElectLeadersRequest'. -/
def fnBehindElectLeadersRequestCard : Claim7 := { stood := { row := fnBehindElectLeadersRequestRow, standIns := [], harness := (true, "70d0a655172f5abc621e7b5933963789846c7d2852d1162bae72725190471a57"), looks := false }, kinds := [], alts := [], laidByText := true, laidKinds := [.sentinel], laidTests := true, laidLooks := .later }
def FnBehindElectLeadersRequestCardSaid : Prop := Claim7.holds Tryz.pinned (.plain (OpenSpec.ofChange fnBehindElectLeadersRequestSpec)) fnBehindElectLeadersRequestCard

/-- THE TIED CARD OF 'laws.FnBehindDescribeTopicPartitionsRequest'. -/
def fnBehindDescribeTopicPartitionsRequestCard : Claim7 := { stood := { row := fnBehindDescribeTopicPartitionsRequestRow, standIns := [], harness := (true, "70d0a655172f5abc621e7b5933963789846c7d2852d1162bae72725190471a57"), looks := false }, kinds := [], alts := [], laidByText := true, laidKinds := [.sentinel], laidTests := true, laidLooks := .later }
def FnBehindDescribeTopicPartitionsRequestCardSaid : Prop := Claim7.holds Tryz.pinned (.plain (OpenSpec.ofChange fnBehindDescribeTopicPartitionsRequestSpec)) fnBehindDescribeTopicPartitionsRequestCard

/-- THE TIED CARD OF 'laws.FnBehindShareGroupHeartbeatRequest'. -/
def fnBehindShareGroupHeartbeatRequestCard : Claim7 := { stood := { row := fnBehindShareGroupHeartbeatRequestRow, standIns := [], harness := (true, "70d0a655172f5abc621e7b5933963789846c7d2852d1162bae72725190471a57"), looks := false }, kinds := [], alts := [], laidByText := true, laidKinds := [.sentinel], laidTests := true, laidLooks := .later }
def FnBehindShareGroupHeartbeatRequestCardSaid : Prop := Claim7.holds Tryz.pinned (.plain (OpenSpec.ofChange fnBehindShareGroupHeartbeatRequestSpec)) fnBehindShareGroupHeartbeatRequestCard

/-- THE TIED CARD OF 'laws.FnBehindLeaderAndISRResponse'. -/
def fnBehindLeaderAndISRResponseCard : Claim7 := { stood := { row := fnBehindLeaderAndISRResponseRow, standIns := [], harness := (true, "70d0a655172f5abc621e7b5933963789846c7d2852d1162bae72725190471a57"), looks := false }, kinds := [], alts := [], laidByText := true, laidKinds := [.sentinel], laidTests := true, laidLooks := .later }
def FnBehindLeaderAndISRResponseCardSaid : Prop := Claim7.holds Tryz.pinned (.plain (OpenSpec.ofChange fnBehindLeaderAndISRResponseSpec)) fnBehindLeaderAndISRResponseCard

/-- THE TIED CARD OF 'laws.FnBehindAddRaftVoterRequest'. -/
def fnBehindAddRaftVoterRequestCard : Claim7 := { stood := { row := fnBehindAddRaftVoterRequestRow, standIns := [], harness := (true, "70d0a655172f5abc621e7b5933963789846c7d2852d1162bae72725190471a57"), looks := false }, kinds := [], alts := [], laidByText := true, laidKinds := [.sentinel], laidTests := true, laidLooks := .later }
def FnBehindAddRaftVoterRequestCardSaid : Prop := Claim7.holds Tryz.pinned (.plain (OpenSpec.ofChange fnBehindAddRaftVoterRequestSpec)) fnBehindAddRaftVoterRequestCard

/-- THE TIED CARD OF 'laws.FnBehindConsumerGroupHeartbeatResponse'. -/
def fnBehindConsumerGroupHeartbeatResponseCard : Claim7 := { stood := { row := fnBehindConsumerGroupHeartbeatResponseRow, standIns := [], harness := (true, "70d0a655172f5abc621e7b5933963789846c7d2852d1162bae72725190471a57"), looks := false }, kinds := [], alts := [], laidByText := true, laidKinds := [.sentinel], laidTests := true, laidLooks := .later }
def FnBehindConsumerGroupHeartbeatResponseCardSaid : Prop := Claim7.holds Tryz.pinned (.plain (OpenSpec.ofChange fnBehindConsumerGroupHeartbeatResponseSpec)) fnBehindConsumerGroupHeartbeatResponseCard

/-- THE TIED CARD OF 'laws.FnBehindControllerRegistrationRequest'. -/
def fnBehindControllerRegistrationRequestCard : Claim7 := { stood := { row := fnBehindControllerRegistrationRequestRow, standIns := [], harness := (true, "70d0a655172f5abc621e7b5933963789846c7d2852d1162bae72725190471a57"), looks := false }, kinds := [], alts := [], laidByText := true, laidKinds := [.sentinel], laidTests := true, laidLooks := .later }
def FnBehindControllerRegistrationRequestCardSaid : Prop := Claim7.holds Tryz.pinned (.plain (OpenSpec.ofChange fnBehindControllerRegistrationRequestSpec)) fnBehindControllerRegistrationRequestCard

/-- THE TIED CARD OF 'laws.FnBehindShareAcknowledgeRequest'. -/
def fnBehindShareAcknowledgeRequestCard : Claim7 := { stood := { row := fnBehindShareAcknowledgeRequestRow, standIns := [], harness := (true, "70d0a655172f5abc621e7b5933963789846c7d2852d1162bae72725190471a57"), looks := false }, kinds := [], alts := [], laidByText := true, laidKinds := [.sentinel], laidTests := true, laidLooks := .later }
def FnBehindShareAcknowledgeRequestCardSaid : Prop := Claim7.holds Tryz.pinned (.plain (OpenSpec.ofChange fnBehindShareAcknowledgeRequestSpec)) fnBehindShareAcknowledgeRequestCard

/-- THE SECOND FORM's CARD OF 'laws.FnBehindDeleteGroupsRequest'. -/
def fnBehindDeleteGroupsRequestUptoCard : Claim7 := { stood := { row := fnBehindDeleteGroupsRequestUptoRow, standIns := [], harness := (true, "70d0a655172f5abc621e7b5933963789846c7d2852d1162bae72725190471a57"), looks := false }, kinds := [], alts := [], laidByText := true, laidKinds := [.sentinel], laidTests := true, laidLooks := .later }
def FnBehindDeleteGroupsRequestUptoCardSaid : Prop := Claim7.holds Tryz.pinned (.plain (OpenSpec.upto fnBehindDeleteGroupsRequestSpec)) fnBehindDeleteGroupsRequestUptoCard

/-- THE SECOND FORM's CARD OF 'laws.FnBehindCreateACLsResponse'. -/
def fnBehindCreateACLsResponseUptoCard : Claim7 := { stood := { row := fnBehindCreateACLsResponseUptoRow, standIns := [], harness := (true, "70d0a655172f5abc621e7b5933963789846c7d2852d1162bae72725190471a57"), looks := false }, kinds := [], alts := [], laidByText := true, laidKinds := [.sentinel], laidTests := true, laidLooks := .later }
def FnBehindCreateACLsResponseUptoCardSaid : Prop := Claim7.holds Tryz.pinned (.plain (OpenSpec.upto fnBehindCreateACLsResponseSpec)) fnBehindCreateACLsResponseUptoCard

/-- THE SECOND FORM's CARD OF 'laws.FnBehindDeleteShareGroupStateRequest'. -/
def fnBehindDeleteShareGroupStateRequestUptoCard : Claim7 := { stood := { row := fnBehindDeleteShareGroupStateRequestUptoRow, standIns := [], harness := (true, "70d0a655172f5abc621e7b5933963789846c7d2852d1162bae72725190471a57"), looks := false }, kinds := [], alts := [], laidByText := true, laidKinds := [.sentinel], laidTests := true, laidLooks := .later }
def FnBehindDeleteShareGroupStateRequestUptoCardSaid : Prop := Claim7.holds Tryz.pinned (.plain (OpenSpec.upto fnBehindDeleteShareGroupStateRequestSpec)) fnBehindDeleteShareGroupStateRequestUptoCard

/-- THE SECOND FORM's CARD OF 'laws.FnBehindElectLeadersRequest'. -/
def fnBehindElectLeadersRequestUptoCard : Claim7 := { stood := { row := fnBehindElectLeadersRequestUptoRow, standIns := [], harness := (true, "70d0a655172f5abc621e7b5933963789846c7d2852d1162bae72725190471a57"), looks := false }, kinds := [], alts := [], laidByText := true, laidKinds := [.sentinel], laidTests := true, laidLooks := .later }
def FnBehindElectLeadersRequestUptoCardSaid : Prop := Claim7.holds Tryz.pinned (.plain (OpenSpec.upto fnBehindElectLeadersRequestSpec)) fnBehindElectLeadersRequestUptoCard

/-- THE SECOND FORM's CARD OF 'laws.FnBehindDescribeTopicPartitionsRequest'. -/
def fnBehindDescribeTopicPartitionsRequestUptoCard : Claim7 := { stood := { row := fnBehindDescribeTopicPartitionsRequestUptoRow, standIns := [], harness := (true, "70d0a655172f5abc621e7b5933963789846c7d2852d1162bae72725190471a57"), looks := false }, kinds := [], alts := [], laidByText := true, laidKinds := [.sentinel], laidTests := true, laidLooks := .later }
def FnBehindDescribeTopicPartitionsRequestUptoCardSaid : Prop := Claim7.holds Tryz.pinned (.plain (OpenSpec.upto fnBehindDescribeTopicPartitionsRequestSpec)) fnBehindDescribeTopicPartitionsRequestUptoCard

/-- THE SECOND FORM's CARD OF 'laws.FnBehindShareGroupHeartbeatRequest'. -/
def fnBehindShareGroupHeartbeatRequestUptoCard : Claim7 := { stood := { row := fnBehindShareGroupHeartbeatRequestUptoRow, standIns := [], harness := (true, "70d0a655172f5abc621e7b5933963789846c7d2852d1162bae72725190471a57"), looks := false }, kinds := [], alts := [], laidByText := true, laidKinds := [.sentinel], laidTests := true, laidLooks := .later }
def FnBehindShareGroupHeartbeatRequestUptoCardSaid : Prop := Claim7.holds Tryz.pinned (.plain (OpenSpec.upto fnBehindShareGroupHeartbeatRequestSpec)) fnBehindShareGroupHeartbeatRequestUptoCard

/-- THE SECOND FORM's CARD OF 'laws.FnBehindLeaderAndISRResponse'. -/
def fnBehindLeaderAndISRResponseUptoCard : Claim7 := { stood := { row := fnBehindLeaderAndISRResponseUptoRow, standIns := [], harness := (true, "70d0a655172f5abc621e7b5933963789846c7d2852d1162bae72725190471a57"), looks := false }, kinds := [], alts := [], laidByText := true, laidKinds := [.sentinel], laidTests := true, laidLooks := .later }
def FnBehindLeaderAndISRResponseUptoCardSaid : Prop := Claim7.holds Tryz.pinned (.plain (OpenSpec.upto fnBehindLeaderAndISRResponseSpec)) fnBehindLeaderAndISRResponseUptoCard

/-- THE SECOND FORM's CARD OF 'laws.FnBehindAddRaftVoterRequest'. -/
def fnBehindAddRaftVoterRequestUptoCard : Claim7 := { stood := { row := fnBehindAddRaftVoterRequestUptoRow, standIns := [], harness := (true, "70d0a655172f5abc621e7b5933963789846c7d2852d1162bae72725190471a57"), looks := false }, kinds := [], alts := [], laidByText := true, laidKinds := [.sentinel], laidTests := true, laidLooks := .later }
def FnBehindAddRaftVoterRequestUptoCardSaid : Prop := Claim7.holds Tryz.pinned (.plain (OpenSpec.upto fnBehindAddRaftVoterRequestSpec)) fnBehindAddRaftVoterRequestUptoCard

/-- THE SECOND FORM's CARD OF 'laws.FnBehindConsumerGroupHeartbeatResponse'. -/
def fnBehindConsumerGroupHeartbeatResponseUptoCard : Claim7 := { stood := { row := fnBehindConsumerGroupHeartbeatResponseUptoRow, standIns := [], harness := (true, "70d0a655172f5abc621e7b5933963789846c7d2852d1162bae72725190471a57"), looks := false }, kinds := [], alts := [], laidByText := true, laidKinds := [.sentinel], laidTests := true, laidLooks := .later }
def FnBehindConsumerGroupHeartbeatResponseUptoCardSaid : Prop := Claim7.holds Tryz.pinned (.plain (OpenSpec.upto fnBehindConsumerGroupHeartbeatResponseSpec)) fnBehindConsumerGroupHeartbeatResponseUptoCard

/-- THE SECOND FORM's CARD OF 'laws.FnBehindControllerRegistrationRequest'. -/
def fnBehindControllerRegistrationRequestUptoCard : Claim7 := { stood := { row := fnBehindControllerRegistrationRequestUptoRow, standIns := [], harness := (true, "70d0a655172f5abc621e7b5933963789846c7d2852d1162bae72725190471a57"), looks := false }, kinds := [], alts := [], laidByText := true, laidKinds := [.sentinel], laidTests := true, laidLooks := .later }
def FnBehindControllerRegistrationRequestUptoCardSaid : Prop := Claim7.holds Tryz.pinned (.plain (OpenSpec.upto fnBehindControllerRegistrationRequestSpec)) fnBehindControllerRegistrationRequestUptoCard

/-- THE SECOND FORM's CARD OF 'laws.FnBehindShareAcknowledgeRequest'. -/
def fnBehindShareAcknowledgeRequestUptoCard : Claim7 := { stood := { row := fnBehindShareAcknowledgeRequestUptoRow, standIns := [], harness := (true, "70d0a655172f5abc621e7b5933963789846c7d2852d1162bae72725190471a57"), looks := false }, kinds := [], alts := [], laidByText := true, laidKinds := [.sentinel], laidTests := true, laidLooks := .later }
def FnBehindShareAcknowledgeRequestUptoCardSaid : Prop := Claim7.holds Tryz.pinned (.plain (OpenSpec.upto fnBehindShareAcknowledgeRequestSpec)) fnBehindShareAcknowledgeRequestUptoCard
end Rows
end Go.Proofs.YtgmhkfdpdbecmaaGreatDoor
