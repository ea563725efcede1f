/-
  DERIVED. GIVEN WITH THE SEED: THE CARDS: each row of YtccgofjnacenhaaDoorRows.lean that lists a variable, with what it lists TIED to the program's text (the seventh form; the later family's looks); each row that meets fmt, with fmt's text TOLD by the authors' own Lean function (tested against real Go, not proved from fmt's source: count such statements apart). THE CARD IS WHAT COUNTS. Prove the row's statement (the work); the ties are given (YtccgofjnacenhaaDoorTie.lean); close each card by the builder's one call (the guide's Derived/Test/ToyasCard.lean, 'card_holds'). Laid BY PROGRAM, IN A SANDBOX (cutbox-door.mjs). By AI agents, Wed Nov 11 2026. No macro, syntax, notation, axiom, sorry.
-/
import Derived.Test.YtccgofjnacenhaaDoorRows
import GoSem.ClaimSeven
namespace Go.Proofs.YtccgofjnacenhaaDoor
namespace Rows

/-- THE TIED CARD OF 'laws.FnDefaultListPartitionReassignmentsRequest'. -/
def fnDefaultListPartitionReassignmentsRequestCard : Claim7 := { stood := { row := fnDefaultListPartitionReassignmentsRequestRow, standIns := [], harness := (true, "fae2a3078356997c3c411be92fed9bdf03c2d3efea0573c99a27423f5ba0318b"), looks := false }, kinds := [], alts := [], laidByText := true, laidKinds := [.sentinel], laidTests := true, laidLooks := .later }
def FnDefaultListPartitionReassignmentsRequestCardSaid : Prop := Claim7.holds Tryd.pinned (.plain (OpenSpec.ofChange fnDefaultListPartitionReassignmentsRequestSpec)) fnDefaultListPartitionReassignmentsRequestCard

/-- THE SECOND FORM's CARD OF 'laws.FnDefaultListPartitionReassignmentsRequest'. -/
def fnDefaultListPartitionReassignmentsRequestUptoCard : Claim7 := { stood := { row := fnDefaultListPartitionReassignmentsRequestUptoRow, standIns := [], harness := (true, "fae2a3078356997c3c411be92fed9bdf03c2d3efea0573c99a27423f5ba0318b"), looks := false }, kinds := [], alts := [], laidByText := true, laidKinds := [.sentinel], laidTests := true, laidLooks := .later }
def FnDefaultListPartitionReassignmentsRequestUptoCardSaid : Prop := Claim7.holds Tryd.pinned (.plain (OpenSpec.upto fnDefaultListPartitionReassignmentsRequestSpec)) fnDefaultListPartitionReassignmentsRequestUptoCard
end Rows
end Go.Proofs.YtccgofjnacenhaaDoor
