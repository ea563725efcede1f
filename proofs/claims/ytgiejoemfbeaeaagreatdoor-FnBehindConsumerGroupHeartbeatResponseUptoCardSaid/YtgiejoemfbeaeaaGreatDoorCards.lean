/-
  DERIVED. GIVEN WITH THE SEED: THE CARDS: each row of YtgiejoemfbeaeaaGreatDoorRows.lean that lists a variable, with what it lists TIED to the program's text (the seventh form; the later family's looks); each row that meets fmt, with fmt's text TOLD by the authors' own Lean function (tested against real Go, not proved from fmt's source: count such statements apart). THE CARD IS WHAT COUNTS. Prove the row's statement (the work); the ties are given (YtgiejoemfbeaeaaGreatDoorTie.lean); close each card by the builder's one call (the guide's Derived/Test/ToyasCard.lean, 'card_holds'). Laid BY PROGRAM, IN A SANDBOX (cutbox-door.mjs). By AI agents, Wed Nov 11 2026. No macro, syntax, notation, axiom, sorry.
-/
import Derived.Test.YtgiejoemfbeaeaaGreatDoorRows
import GoSem.ClaimSeven
namespace Go.Proofs.YtgiejoemfbeaeaaGreatDoor
namespace Rows

/-- THE TIED CARD OF 'laws.FnBehindDescribeTopicPartitionsRequest'. -/
def fnBehindDescribeTopicPartitionsRequestCard : Claim7 := { stood := { row := fnBehindDescribeTopicPartitionsRequestRow, standIns := [], harness := (true, "bfce205ee67ebfede0a5487b7a07a7dc9315c3c73df4380a84e69b19fe560e99"), looks := false }, kinds := [], alts := [], laidByText := true, laidKinds := [.sentinel], laidTests := true, laidLooks := .later }
def FnBehindDescribeTopicPartitionsRequestCardSaid : Prop := Claim7.holds Tryz.pinned (.plain (OpenSpec.ofChange fnBehindDescribeTopicPartitionsRequestSpec)) fnBehindDescribeTopicPartitionsRequestCard

/-- THE TIED CARD OF 'laws.FnBehindConsumerGroupHeartbeatResponse'. -/
def fnBehindConsumerGroupHeartbeatResponseCard : Claim7 := { stood := { row := fnBehindConsumerGroupHeartbeatResponseRow, standIns := [], harness := (true, "bfce205ee67ebfede0a5487b7a07a7dc9315c3c73df4380a84e69b19fe560e99"), looks := false }, kinds := [], alts := [], laidByText := true, laidKinds := [.sentinel], laidTests := true, laidLooks := .later }
def FnBehindConsumerGroupHeartbeatResponseCardSaid : Prop := Claim7.holds Tryz.pinned (.plain (OpenSpec.ofChange fnBehindConsumerGroupHeartbeatResponseSpec)) fnBehindConsumerGroupHeartbeatResponseCard

/-- THE SECOND FORM's CARD OF 'laws.FnBehindDescribeTopicPartitionsRequest'. -/
def fnBehindDescribeTopicPartitionsRequestUptoCard : Claim7 := { stood := { row := fnBehindDescribeTopicPartitionsRequestUptoRow, standIns := [], harness := (true, "bfce205ee67ebfede0a5487b7a07a7dc9315c3c73df4380a84e69b19fe560e99"), looks := false }, kinds := [], alts := [], laidByText := true, laidKinds := [.sentinel], laidTests := true, laidLooks := .later }
def FnBehindDescribeTopicPartitionsRequestUptoCardSaid : Prop := Claim7.holds Tryz.pinned (.plain (OpenSpec.upto fnBehindDescribeTopicPartitionsRequestSpec)) fnBehindDescribeTopicPartitionsRequestUptoCard

/-- THE SECOND FORM's CARD OF 'laws.FnBehindConsumerGroupHeartbeatResponse'. -/
def fnBehindConsumerGroupHeartbeatResponseUptoCard : Claim7 := { stood := { row := fnBehindConsumerGroupHeartbeatResponseUptoRow, standIns := [], harness := (true, "bfce205ee67ebfede0a5487b7a07a7dc9315c3c73df4380a84e69b19fe560e99"), looks := false }, kinds := [], alts := [], laidByText := true, laidKinds := [.sentinel], laidTests := true, laidLooks := .later }
def FnBehindConsumerGroupHeartbeatResponseUptoCardSaid : Prop := Claim7.holds Tryz.pinned (.plain (OpenSpec.upto fnBehindConsumerGroupHeartbeatResponseSpec)) fnBehindConsumerGroupHeartbeatResponseUptoCard
end Rows
end Go.Proofs.YtgiejoemfbeaeaaGreatDoor
