/-
  DERIVED. GIVEN WITH THE SEED: THE CARDS: each row of YtapclkhkldikeaaGreatDoorRows.lean that lists a variable, with what it lists TIED to the program's text (the seventh form; the later family's looks); each row that meets fmt, with fmt's text TOLD by the authors' own Lean function (tested against real Go, not proved from fmt's source: count such statements apart). THE CARD IS WHAT COUNTS. Prove the row's statement (the work); the ties are given (YtapclkhkldikeaaGreatDoorTie.lean); close each card by the builder's one call (the guide's Derived/Test/ToyasCard.lean, 'card_holds'). Laid BY PROGRAM, IN A SANDBOX (cutbox-door.mjs). By AI agents, Wed Nov 11 2026. No macro, syntax, notation, axiom, sorry.
-/
import Derived.Test.YtapclkhkldikeaaGreatDoorRows
import GoSem.ClaimSeven
namespace Go.Proofs.YtapclkhkldikeaaGreatDoor
namespace Rows

/-- THE TIED CARD OF 'laws.FnFrameListConfigResourcesRequest'. -/
def fnFrameListConfigResourcesRequestCard : Claim7 := { stood := { row := fnFrameListConfigResourcesRequestRow, standIns := [], harness := (true, "ab06c1909685707f6c396896977dece1f0de9916ecd5ba439182b2842293751e"), looks := false }, kinds := [], alts := [], laidByText := true, laidKinds := [.sentinel], laidTests := true, laidLooks := .later }
def FnFrameListConfigResourcesRequestCardSaid : Prop := Claim7.holds Tryz.pinned (.plain (OpenSpec.ofChange fnFrameListConfigResourcesRequestSpec)) fnFrameListConfigResourcesRequestCard

/-- THE TIED CARD OF 'laws.FnFrameConsumerGroupDescribeRequest'. -/
def fnFrameConsumerGroupDescribeRequestCard : Claim7 := { stood := { row := fnFrameConsumerGroupDescribeRequestRow, standIns := [], harness := (true, "ab06c1909685707f6c396896977dece1f0de9916ecd5ba439182b2842293751e"), looks := false }, kinds := [], alts := [], laidByText := true, laidKinds := [.sentinel], laidTests := true, laidLooks := .later }
def FnFrameConsumerGroupDescribeRequestCardSaid : Prop := Claim7.holds Tryz.pinned (.plain (OpenSpec.ofChange fnFrameConsumerGroupDescribeRequestSpec)) fnFrameConsumerGroupDescribeRequestCard

/-- THE SECOND FORM's CARD OF 'laws.FnFrameListConfigResourcesRequest'. -/
def fnFrameListConfigResourcesRequestUptoCard : Claim7 := { stood := { row := fnFrameListConfigResourcesRequestUptoRow, standIns := [], harness := (true, "ab06c1909685707f6c396896977dece1f0de9916ecd5ba439182b2842293751e"), looks := false }, kinds := [], alts := [], laidByText := true, laidKinds := [.sentinel], laidTests := true, laidLooks := .later }
def FnFrameListConfigResourcesRequestUptoCardSaid : Prop := Claim7.holds Tryz.pinned (.plain (OpenSpec.upto fnFrameListConfigResourcesRequestSpec)) fnFrameListConfigResourcesRequestUptoCard

/-- THE SECOND FORM's CARD OF 'laws.FnFrameConsumerGroupDescribeRequest'. -/
def fnFrameConsumerGroupDescribeRequestUptoCard : Claim7 := { stood := { row := fnFrameConsumerGroupDescribeRequestUptoRow, standIns := [], harness := (true, "ab06c1909685707f6c396896977dece1f0de9916ecd5ba439182b2842293751e"), looks := false }, kinds := [], alts := [], laidByText := true, laidKinds := [.sentinel], laidTests := true, laidLooks := .later }
def FnFrameConsumerGroupDescribeRequestUptoCardSaid : Prop := Claim7.holds Tryz.pinned (.plain (OpenSpec.upto fnFrameConsumerGroupDescribeRequestSpec)) fnFrameConsumerGroupDescribeRequestUptoCard
end Rows
end Go.Proofs.YtapclkhkldikeaaGreatDoor
