/-
  DERIVED. GIVEN WITH THE SEED: THE CARDS: each row of YtccgofjnacenhaaGreatDoorRows.lean that lists a variable, with what it lists TIED to the program's text (the seventh form; the later family's looks); each row that meets fmt, with fmt's text TOLD by the authors' own Lean function (tested against real Go, not proved from fmt's source: count such statements apart). THE CARD IS WHAT COUNTS. Prove the row's statement (the work); the ties are given (YtccgofjnacenhaaGreatDoorTie.lean); close each card by the builder's one call (the guide's Derived/Test/ToyasCard.lean, 'card_holds'). Laid BY PROGRAM, IN A SANDBOX (cutbox-door.mjs). By AI agents, Wed Nov 11 2026. No macro, syntax, notation, axiom, sorry.
-/
import Derived.Test.YtccgofjnacenhaaGreatDoorRows
import GoSem.ClaimSeven
namespace Go.Proofs.YtccgofjnacenhaaGreatDoor
namespace Rows

/-- THE TIED CARD OF 'laws.FnTellDescribeClusterResponse'. -/
def fnTellDescribeClusterResponseCard : Claim7 := { stood := { row := fnTellDescribeClusterResponseRow, standIns := [], harness := (true, "982c50c41c2f96a4af69c191ec172062d11d1e61897e4060bd1485a2d6ab1c45"), looks := false }, kinds := [], alts := [], laidByText := true, laidKinds := [.sentinel], laidTests := true, laidLooks := .later }
def FnTellDescribeClusterResponseCardSaid : Prop := Claim7.holds Tryz.pinned (.plain (OpenSpec.ofChange fnTellDescribeClusterResponseSpec)) fnTellDescribeClusterResponseCard

/-- THE TIED CARD OF 'laws.FnTellVoteRequest'. -/
def fnTellVoteRequestCard : Claim7 := { stood := { row := fnTellVoteRequestRow, standIns := [], harness := (true, "982c50c41c2f96a4af69c191ec172062d11d1e61897e4060bd1485a2d6ab1c45"), looks := false }, kinds := [], alts := [], laidByText := true, laidKinds := [.sentinel], laidTests := true, laidLooks := .later }
def FnTellVoteRequestCardSaid : Prop := Claim7.holds Tryz.pinned (.plain (OpenSpec.ofChange fnTellVoteRequestSpec)) fnTellVoteRequestCard

/-- THE TIED CARD OF 'laws.FnTellBrokerRegistrationRequest'. -/
def fnTellBrokerRegistrationRequestCard : Claim7 := { stood := { row := fnTellBrokerRegistrationRequestRow, standIns := [], harness := (true, "982c50c41c2f96a4af69c191ec172062d11d1e61897e4060bd1485a2d6ab1c45"), looks := false }, kinds := [], alts := [], laidByText := true, laidKinds := [.sentinel], laidTests := true, laidLooks := .later }
def FnTellBrokerRegistrationRequestCardSaid : Prop := Claim7.holds Tryz.pinned (.plain (OpenSpec.ofChange fnTellBrokerRegistrationRequestSpec)) fnTellBrokerRegistrationRequestCard

/-- THE TIED CARD OF 'laws.FnTellDescribeGroupsResponse'. -/
def fnTellDescribeGroupsResponseCard : Claim7 := { stood := { row := fnTellDescribeGroupsResponseRow, standIns := [], harness := (true, "982c50c41c2f96a4af69c191ec172062d11d1e61897e4060bd1485a2d6ab1c45"), looks := false }, kinds := [], alts := [], laidByText := true, laidKinds := [.sentinel], laidTests := true, laidLooks := .later }
def FnTellDescribeGroupsResponseCardSaid : Prop := Claim7.holds Tryz.pinned (.plain (OpenSpec.ofChange fnTellDescribeGroupsResponseSpec)) fnTellDescribeGroupsResponseCard

/-- THE TIED CARD OF 'laws.FnDefaultAssignReplicasToDirsRequest'. -/
def fnDefaultAssignReplicasToDirsRequestCard : Claim7 := { stood := { row := fnDefaultAssignReplicasToDirsRequestRow, standIns := [], harness := (true, "982c50c41c2f96a4af69c191ec172062d11d1e61897e4060bd1485a2d6ab1c45"), looks := false }, kinds := [], alts := [], laidByText := true, laidKinds := [.sentinel], laidTests := true, laidLooks := .later }
def FnDefaultAssignReplicasToDirsRequestCardSaid : Prop := Claim7.holds Tryz.pinned (.plain (OpenSpec.ofChange fnDefaultAssignReplicasToDirsRequestSpec)) fnDefaultAssignReplicasToDirsRequestCard

/-- THE TIED CARD OF 'laws.FnDefaultCreatePartitionsRequest'. -/
def fnDefaultCreatePartitionsRequestCard : Claim7 := { stood := { row := fnDefaultCreatePartitionsRequestRow, standIns := [], harness := (true, "982c50c41c2f96a4af69c191ec172062d11d1e61897e4060bd1485a2d6ab1c45"), looks := false }, kinds := [], alts := [], laidByText := true, laidKinds := [.sentinel], laidTests := true, laidLooks := .later }
def FnDefaultCreatePartitionsRequestCardSaid : Prop := Claim7.holds Tryz.pinned (.plain (OpenSpec.ofChange fnDefaultCreatePartitionsRequestSpec)) fnDefaultCreatePartitionsRequestCard

/-- THE SECOND FORM's CARD OF 'laws.FnTellDescribeClusterResponse'. -/
def fnTellDescribeClusterResponseUptoCard : Claim7 := { stood := { row := fnTellDescribeClusterResponseUptoRow, standIns := [], harness := (true, "982c50c41c2f96a4af69c191ec172062d11d1e61897e4060bd1485a2d6ab1c45"), looks := false }, kinds := [], alts := [], laidByText := true, laidKinds := [.sentinel], laidTests := true, laidLooks := .later }
def FnTellDescribeClusterResponseUptoCardSaid : Prop := Claim7.holds Tryz.pinned (.plain (OpenSpec.upto fnTellDescribeClusterResponseSpec)) fnTellDescribeClusterResponseUptoCard

/-- THE SECOND FORM's CARD OF 'laws.FnTellVoteRequest'. -/
def fnTellVoteRequestUptoCard : Claim7 := { stood := { row := fnTellVoteRequestUptoRow, standIns := [], harness := (true, "982c50c41c2f96a4af69c191ec172062d11d1e61897e4060bd1485a2d6ab1c45"), looks := false }, kinds := [], alts := [], laidByText := true, laidKinds := [.sentinel], laidTests := true, laidLooks := .later }
def FnTellVoteRequestUptoCardSaid : Prop := Claim7.holds Tryz.pinned (.plain (OpenSpec.upto fnTellVoteRequestSpec)) fnTellVoteRequestUptoCard

/-- THE SECOND FORM's CARD OF 'laws.FnTellBrokerRegistrationRequest'. -/
def fnTellBrokerRegistrationRequestUptoCard : Claim7 := { stood := { row := fnTellBrokerRegistrationRequestUptoRow, standIns := [], harness := (true, "982c50c41c2f96a4af69c191ec172062d11d1e61897e4060bd1485a2d6ab1c45"), looks := false }, kinds := [], alts := [], laidByText := true, laidKinds := [.sentinel], laidTests := true, laidLooks := .later }
def FnTellBrokerRegistrationRequestUptoCardSaid : Prop := Claim7.holds Tryz.pinned (.plain (OpenSpec.upto fnTellBrokerRegistrationRequestSpec)) fnTellBrokerRegistrationRequestUptoCard

/-- THE SECOND FORM's CARD OF 'laws.FnTellDescribeGroupsResponse'. -/
def fnTellDescribeGroupsResponseUptoCard : Claim7 := { stood := { row := fnTellDescribeGroupsResponseUptoRow, standIns := [], harness := (true, "982c50c41c2f96a4af69c191ec172062d11d1e61897e4060bd1485a2d6ab1c45"), looks := false }, kinds := [], alts := [], laidByText := true, laidKinds := [.sentinel], laidTests := true, laidLooks := .later }
def FnTellDescribeGroupsResponseUptoCardSaid : Prop := Claim7.holds Tryz.pinned (.plain (OpenSpec.upto fnTellDescribeGroupsResponseSpec)) fnTellDescribeGroupsResponseUptoCard

/-- THE SECOND FORM's CARD OF 'laws.FnDefaultAssignReplicasToDirsRequest'. -/
def fnDefaultAssignReplicasToDirsRequestUptoCard : Claim7 := { stood := { row := fnDefaultAssignReplicasToDirsRequestUptoRow, standIns := [], harness := (true, "982c50c41c2f96a4af69c191ec172062d11d1e61897e4060bd1485a2d6ab1c45"), looks := false }, kinds := [], alts := [], laidByText := true, laidKinds := [.sentinel], laidTests := true, laidLooks := .later }
def FnDefaultAssignReplicasToDirsRequestUptoCardSaid : Prop := Claim7.holds Tryz.pinned (.plain (OpenSpec.upto fnDefaultAssignReplicasToDirsRequestSpec)) fnDefaultAssignReplicasToDirsRequestUptoCard

/-- THE SECOND FORM's CARD OF 'laws.FnDefaultCreatePartitionsRequest'. -/
def fnDefaultCreatePartitionsRequestUptoCard : Claim7 := { stood := { row := fnDefaultCreatePartitionsRequestUptoRow, standIns := [], harness := (true, "982c50c41c2f96a4af69c191ec172062d11d1e61897e4060bd1485a2d6ab1c45"), looks := false }, kinds := [], alts := [], laidByText := true, laidKinds := [.sentinel], laidTests := true, laidLooks := .later }
def FnDefaultCreatePartitionsRequestUptoCardSaid : Prop := Claim7.holds Tryz.pinned (.plain (OpenSpec.upto fnDefaultCreatePartitionsRequestSpec)) fnDefaultCreatePartitionsRequestUptoCard
end Rows
end Go.Proofs.YtccgofjnacenhaaGreatDoor
