/-
  DERIVED. GIVEN WITH THE SEED: THE CARDS: each row of YtplpomlhhaccgaaDoorRows.lean that lists a variable, with what it lists TIED to the program's text (the seventh form; the later family's looks); each row that meets fmt, with fmt's text TOLD by the authors' own Lean function (tested against real Go, not proved from fmt's source: count such statements apart). THE CARD IS WHAT COUNTS. Prove the row's statement (the work); the ties are given (YtplpomlhhaccgaaDoorTie.lean); close each card by the builder's one call (the guide's Derived/Test/ToyasCard.lean, 'card_holds'). Laid BY PROGRAM, IN A SANDBOX (cutbox-door.mjs). By AI agents, Wed Nov 11 2026. No macro, syntax, notation, axiom, sorry.
-/
import Derived.Test.YtplpomlhhaccgaaDoorRows
import GoSem.ClaimSeven
namespace Go.Proofs.YtplpomlhhaccgaaDoor
namespace Rows

/-- THE TIED CARD OF 'laws.FnTellOffsetDeleteResponse'. -/
def fnTellOffsetDeleteResponseCard : Claim7 := { stood := { row := fnTellOffsetDeleteResponseRow, standIns := [], harness := (true, "0a2ec0027d404861479d8c6c0e1bf78bb313560e3e16082ae1e22e03f844b263"), looks := false }, kinds := [], alts := [], laidByText := true, laidKinds := [.sentinel], laidTests := true, laidLooks := .later }
def FnTellOffsetDeleteResponseCardSaid : Prop := Claim7.holds Tryd.pinned (.plain (OpenSpec.ofChange fnTellOffsetDeleteResponseSpec)) fnTellOffsetDeleteResponseCard

/-- THE TIED CARD OF 'laws.FnTellConnectMemberAssignment'. -/
def fnTellConnectMemberAssignmentCard : Claim7 := { stood := { row := fnTellConnectMemberAssignmentRow, standIns := [], harness := (true, "0a2ec0027d404861479d8c6c0e1bf78bb313560e3e16082ae1e22e03f844b263"), looks := false }, kinds := [], alts := [], laidByText := true, laidKinds := [.sentinel], laidTests := true, laidLooks := .later }
def FnTellConnectMemberAssignmentCardSaid : Prop := Claim7.holds Tryd.pinned (.plain (OpenSpec.ofChange fnTellConnectMemberAssignmentSpec)) fnTellConnectMemberAssignmentCard

/-- THE TIED CARD OF 'laws.FnTellAllocateProducerIDsResponse'. -/
def fnTellAllocateProducerIDsResponseCard : Claim7 := { stood := { row := fnTellAllocateProducerIDsResponseRow, standIns := [], harness := (true, "0a2ec0027d404861479d8c6c0e1bf78bb313560e3e16082ae1e22e03f844b263"), looks := false }, kinds := [], alts := [], laidByText := true, laidKinds := [.sentinel], laidTests := true, laidLooks := .later }
def FnTellAllocateProducerIDsResponseCardSaid : Prop := Claim7.holds Tryd.pinned (.plain (OpenSpec.ofChange fnTellAllocateProducerIDsResponseSpec)) fnTellAllocateProducerIDsResponseCard

/-- THE TIED CARD OF 'laws.FnTellUnregisterBrokerResponse'. -/
def fnTellUnregisterBrokerResponseCard : Claim7 := { stood := { row := fnTellUnregisterBrokerResponseRow, standIns := [], harness := (true, "0a2ec0027d404861479d8c6c0e1bf78bb313560e3e16082ae1e22e03f844b263"), looks := false }, kinds := [], alts := [], laidByText := true, laidKinds := [.sentinel], laidTests := true, laidLooks := .later }
def FnTellUnregisterBrokerResponseCardSaid : Prop := Claim7.holds Tryd.pinned (.plain (OpenSpec.ofChange fnTellUnregisterBrokerResponseSpec)) fnTellUnregisterBrokerResponseCard

/-- THE TIED CARD OF 'laws.FnTellStreamsGroupTopologyDescriptionUpdateResponse'. -/
def fnTellStreamsGroupTopologyDescriptionUpdateResponseCard : Claim7 := { stood := { row := fnTellStreamsGroupTopologyDescriptionUpdateResponseRow, standIns := [], harness := (true, "0a2ec0027d404861479d8c6c0e1bf78bb313560e3e16082ae1e22e03f844b263"), looks := false }, kinds := [], alts := [], laidByText := true, laidKinds := [.sentinel], laidTests := true, laidLooks := .later }
def FnTellStreamsGroupTopologyDescriptionUpdateResponseCardSaid : Prop := Claim7.holds Tryd.pinned (.plain (OpenSpec.ofChange fnTellStreamsGroupTopologyDescriptionUpdateResponseSpec)) fnTellStreamsGroupTopologyDescriptionUpdateResponseCard

/-- THE SECOND FORM's CARD OF 'laws.FnTellOffsetDeleteResponse'. -/
def fnTellOffsetDeleteResponseUptoCard : Claim7 := { stood := { row := fnTellOffsetDeleteResponseUptoRow, standIns := [], harness := (true, "0a2ec0027d404861479d8c6c0e1bf78bb313560e3e16082ae1e22e03f844b263"), looks := false }, kinds := [], alts := [], laidByText := true, laidKinds := [.sentinel], laidTests := true, laidLooks := .later }
def FnTellOffsetDeleteResponseUptoCardSaid : Prop := Claim7.holds Tryd.pinned (.plain (OpenSpec.upto fnTellOffsetDeleteResponseSpec)) fnTellOffsetDeleteResponseUptoCard

/-- THE SECOND FORM's CARD OF 'laws.FnTellConnectMemberAssignment'. -/
def fnTellConnectMemberAssignmentUptoCard : Claim7 := { stood := { row := fnTellConnectMemberAssignmentUptoRow, standIns := [], harness := (true, "0a2ec0027d404861479d8c6c0e1bf78bb313560e3e16082ae1e22e03f844b263"), looks := false }, kinds := [], alts := [], laidByText := true, laidKinds := [.sentinel], laidTests := true, laidLooks := .later }
def FnTellConnectMemberAssignmentUptoCardSaid : Prop := Claim7.holds Tryd.pinned (.plain (OpenSpec.upto fnTellConnectMemberAssignmentSpec)) fnTellConnectMemberAssignmentUptoCard

/-- THE SECOND FORM's CARD OF 'laws.FnTellAllocateProducerIDsResponse'. -/
def fnTellAllocateProducerIDsResponseUptoCard : Claim7 := { stood := { row := fnTellAllocateProducerIDsResponseUptoRow, standIns := [], harness := (true, "0a2ec0027d404861479d8c6c0e1bf78bb313560e3e16082ae1e22e03f844b263"), looks := false }, kinds := [], alts := [], laidByText := true, laidKinds := [.sentinel], laidTests := true, laidLooks := .later }
def FnTellAllocateProducerIDsResponseUptoCardSaid : Prop := Claim7.holds Tryd.pinned (.plain (OpenSpec.upto fnTellAllocateProducerIDsResponseSpec)) fnTellAllocateProducerIDsResponseUptoCard

/-- THE SECOND FORM's CARD OF 'laws.FnTellUnregisterBrokerResponse'. -/
def fnTellUnregisterBrokerResponseUptoCard : Claim7 := { stood := { row := fnTellUnregisterBrokerResponseUptoRow, standIns := [], harness := (true, "0a2ec0027d404861479d8c6c0e1bf78bb313560e3e16082ae1e22e03f844b263"), looks := false }, kinds := [], alts := [], laidByText := true, laidKinds := [.sentinel], laidTests := true, laidLooks := .later }
def FnTellUnregisterBrokerResponseUptoCardSaid : Prop := Claim7.holds Tryd.pinned (.plain (OpenSpec.upto fnTellUnregisterBrokerResponseSpec)) fnTellUnregisterBrokerResponseUptoCard

/-- THE SECOND FORM's CARD OF 'laws.FnTellStreamsGroupTopologyDescriptionUpdateResponse'. -/
def fnTellStreamsGroupTopologyDescriptionUpdateResponseUptoCard : Claim7 := { stood := { row := fnTellStreamsGroupTopologyDescriptionUpdateResponseUptoRow, standIns := [], harness := (true, "0a2ec0027d404861479d8c6c0e1bf78bb313560e3e16082ae1e22e03f844b263"), looks := false }, kinds := [], alts := [], laidByText := true, laidKinds := [.sentinel], laidTests := true, laidLooks := .later }
def FnTellStreamsGroupTopologyDescriptionUpdateResponseUptoCardSaid : Prop := Claim7.holds Tryd.pinned (.plain (OpenSpec.upto fnTellStreamsGroupTopologyDescriptionUpdateResponseSpec)) fnTellStreamsGroupTopologyDescriptionUpdateResponseUptoCard
end Rows
end Go.Proofs.YtplpomlhhaccgaaDoor
