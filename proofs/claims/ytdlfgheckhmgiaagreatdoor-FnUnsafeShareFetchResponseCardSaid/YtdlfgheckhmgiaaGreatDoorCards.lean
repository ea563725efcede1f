/-
  DERIVED. GIVEN WITH THE SEED: THE CARDS: each row of YtdlfgheckhmgiaaGreatDoorRows.lean that lists a variable, with what it lists TIED to the program's text (the seventh form; the later family's looks); each row that meets fmt, with fmt's text TOLD by the authors' own Lean function (tested against real Go, not proved from fmt's source: count such statements apart). THE CARD IS WHAT COUNTS. Prove the row's statement (the work); the ties are given (YtdlfgheckhmgiaaGreatDoorTie.lean); close each card by the builder's one call (the guide's Derived/Test/ToyasCard.lean, 'card_holds'). Laid BY PROGRAM, IN A SANDBOX (cutbox-door.mjs). By AI agents, Wed Nov 11 2026. No macro, syntax, notation, axiom, sorry.
-/
import Derived.Test.YtdlfgheckhmgiaaGreatDoorRows
import GoSem.ClaimSeven
namespace Go.Proofs.YtdlfgheckhmgiaaGreatDoor
namespace Rows

/-- THE TIED CARD OF 'laws.FnUnsafeShareFetchResponse'. -/
def fnUnsafeShareFetchResponseCard : Claim7 := { stood := { row := fnUnsafeShareFetchResponseRow, standIns := [], harness := (true, "a23f231a361584b5d092ca6ec60f636a3687feb92c2d0072592242ec6ca74a22"), looks := false }, kinds := [], alts := [], laidByText := true, laidKinds := [.sentinel], laidTests := true, laidLooks := .later }
def FnUnsafeShareFetchResponseCardSaid : Prop := Claim7.holds Tryz.pinned (.plain (OpenSpec.ofChange fnUnsafeShareFetchResponseSpec)) fnUnsafeShareFetchResponseCard

/-- THE TIED CARD OF 'laws.FnUnsafeDescribeQuorumResponse'. -/
def fnUnsafeDescribeQuorumResponseCard : Claim7 := { stood := { row := fnUnsafeDescribeQuorumResponseRow, standIns := [], harness := (true, "a23f231a361584b5d092ca6ec60f636a3687feb92c2d0072592242ec6ca74a22"), looks := false }, kinds := [], alts := [], laidByText := true, laidKinds := [.sentinel], laidTests := true, laidLooks := .later }
def FnUnsafeDescribeQuorumResponseCardSaid : Prop := Claim7.holds Tryz.pinned (.plain (OpenSpec.ofChange fnUnsafeDescribeQuorumResponseSpec)) fnUnsafeDescribeQuorumResponseCard

/-- THE SECOND FORM's CARD OF 'laws.FnUnsafeShareFetchResponse'. -/
def fnUnsafeShareFetchResponseUptoCard : Claim7 := { stood := { row := fnUnsafeShareFetchResponseUptoRow, standIns := [], harness := (true, "a23f231a361584b5d092ca6ec60f636a3687feb92c2d0072592242ec6ca74a22"), looks := false }, kinds := [], alts := [], laidByText := true, laidKinds := [.sentinel], laidTests := true, laidLooks := .later }
def FnUnsafeShareFetchResponseUptoCardSaid : Prop := Claim7.holds Tryz.pinned (.plain (OpenSpec.upto fnUnsafeShareFetchResponseSpec)) fnUnsafeShareFetchResponseUptoCard

/-- THE SECOND FORM's CARD OF 'laws.FnUnsafeDescribeQuorumResponse'. -/
def fnUnsafeDescribeQuorumResponseUptoCard : Claim7 := { stood := { row := fnUnsafeDescribeQuorumResponseUptoRow, standIns := [], harness := (true, "a23f231a361584b5d092ca6ec60f636a3687feb92c2d0072592242ec6ca74a22"), looks := false }, kinds := [], alts := [], laidByText := true, laidKinds := [.sentinel], laidTests := true, laidLooks := .later }
def FnUnsafeDescribeQuorumResponseUptoCardSaid : Prop := Claim7.holds Tryz.pinned (.plain (OpenSpec.upto fnUnsafeDescribeQuorumResponseSpec)) fnUnsafeDescribeQuorumResponseUptoCard
end Rows
end Go.Proofs.YtdlfgheckhmgiaaGreatDoor
