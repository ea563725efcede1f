/-
  DERIVED. GIVEN WITH THE SEED: THE CARDS: each row of YtlmaknaknlbnmaaDoorRows.lean that lists a variable, with what it lists TIED to the program's text (the seventh form; the later family's looks); each row that meets fmt, with fmt's text TOLD by the authors' own Lean function (tested against real Go, not proved from fmt's source: count such statements apart). THE CARD IS WHAT COUNTS. Prove the row's statement (the work); the ties are given (YtlmaknaknlbnmaaDoorTie.lean); close each card by the builder's one call (the guide's Derived/Test/ToyasCard.lean, 'card_holds'). Laid BY PROGRAM, IN A SANDBOX (cutbox-door.mjs). By AI agents, Wed Nov 11 2026. No macro, syntax, notation, axiom, sorry.
-/
import Derived.Test.YtlmaknaknlbnmaaDoorRows
import GoSem.ClaimSeven
namespace Go.Proofs.YtlmaknaknlbnmaaDoor
namespace Rows

/-- THE TIED CARD OF 'laws.FnUnsafeBeginQuorumEpochResponse'. -/
def fnUnsafeBeginQuorumEpochResponseCard : Claim7 := { stood := { row := fnUnsafeBeginQuorumEpochResponseRow, standIns := [], harness := (true, "4de7f2ecb590a105aa40011abb1bce728330ba3c2352dba0b288a2b5616a3967"), looks := false }, kinds := [], alts := [], laidByText := true, laidKinds := [.sentinel], laidTests := true, laidLooks := .later }
def FnUnsafeBeginQuorumEpochResponseCardSaid : Prop := Claim7.holds Tryd.pinned (.plain (OpenSpec.ofChange fnUnsafeBeginQuorumEpochResponseSpec)) fnUnsafeBeginQuorumEpochResponseCard

/-- THE TIED CARD OF 'laws.FnUnsafeEndQuorumEpochResponse'. -/
def fnUnsafeEndQuorumEpochResponseCard : Claim7 := { stood := { row := fnUnsafeEndQuorumEpochResponseRow, standIns := [], harness := (true, "4de7f2ecb590a105aa40011abb1bce728330ba3c2352dba0b288a2b5616a3967"), looks := false }, kinds := [], alts := [], laidByText := true, laidKinds := [.sentinel], laidTests := true, laidLooks := .later }
def FnUnsafeEndQuorumEpochResponseCardSaid : Prop := Claim7.holds Tryd.pinned (.plain (OpenSpec.ofChange fnUnsafeEndQuorumEpochResponseSpec)) fnUnsafeEndQuorumEpochResponseCard

/-- THE TIED CARD OF 'laws.FnUnsafeFetchSnapshotRequest'. -/
def fnUnsafeFetchSnapshotRequestCard : Claim7 := { stood := { row := fnUnsafeFetchSnapshotRequestRow, standIns := [], harness := (true, "4de7f2ecb590a105aa40011abb1bce728330ba3c2352dba0b288a2b5616a3967"), looks := false }, kinds := [], alts := [], laidByText := true, laidKinds := [.sentinel], laidTests := true, laidLooks := .later }
def FnUnsafeFetchSnapshotRequestCardSaid : Prop := Claim7.holds Tryd.pinned (.plain (OpenSpec.ofChange fnUnsafeFetchSnapshotRequestSpec)) fnUnsafeFetchSnapshotRequestCard

/-- THE TIED CARD OF 'laws.FnUnsafeCreateTopicsResponse'. -/
def fnUnsafeCreateTopicsResponseCard : Claim7 := { stood := { row := fnUnsafeCreateTopicsResponseRow, standIns := [], harness := (true, "4de7f2ecb590a105aa40011abb1bce728330ba3c2352dba0b288a2b5616a3967"), looks := false }, kinds := [], alts := [], laidByText := true, laidKinds := [.sentinel], laidTests := true, laidLooks := .later }
def FnUnsafeCreateTopicsResponseCardSaid : Prop := Claim7.holds Tryd.pinned (.plain (OpenSpec.ofChange fnUnsafeCreateTopicsResponseSpec)) fnUnsafeCreateTopicsResponseCard

/-- THE SECOND FORM's CARD OF 'laws.FnUnsafeBeginQuorumEpochResponse'. -/
def fnUnsafeBeginQuorumEpochResponseUptoCard : Claim7 := { stood := { row := fnUnsafeBeginQuorumEpochResponseUptoRow, standIns := [], harness := (true, "4de7f2ecb590a105aa40011abb1bce728330ba3c2352dba0b288a2b5616a3967"), looks := false }, kinds := [], alts := [], laidByText := true, laidKinds := [.sentinel], laidTests := true, laidLooks := .later }
def FnUnsafeBeginQuorumEpochResponseUptoCardSaid : Prop := Claim7.holds Tryd.pinned (.plain (OpenSpec.upto fnUnsafeBeginQuorumEpochResponseSpec)) fnUnsafeBeginQuorumEpochResponseUptoCard

/-- THE SECOND FORM's CARD OF 'laws.FnUnsafeEndQuorumEpochResponse'. -/
def fnUnsafeEndQuorumEpochResponseUptoCard : Claim7 := { stood := { row := fnUnsafeEndQuorumEpochResponseUptoRow, standIns := [], harness := (true, "4de7f2ecb590a105aa40011abb1bce728330ba3c2352dba0b288a2b5616a3967"), looks := false }, kinds := [], alts := [], laidByText := true, laidKinds := [.sentinel], laidTests := true, laidLooks := .later }
def FnUnsafeEndQuorumEpochResponseUptoCardSaid : Prop := Claim7.holds Tryd.pinned (.plain (OpenSpec.upto fnUnsafeEndQuorumEpochResponseSpec)) fnUnsafeEndQuorumEpochResponseUptoCard

/-- THE SECOND FORM's CARD OF 'laws.FnUnsafeFetchSnapshotRequest'. -/
def fnUnsafeFetchSnapshotRequestUptoCard : Claim7 := { stood := { row := fnUnsafeFetchSnapshotRequestUptoRow, standIns := [], harness := (true, "4de7f2ecb590a105aa40011abb1bce728330ba3c2352dba0b288a2b5616a3967"), looks := false }, kinds := [], alts := [], laidByText := true, laidKinds := [.sentinel], laidTests := true, laidLooks := .later }
def FnUnsafeFetchSnapshotRequestUptoCardSaid : Prop := Claim7.holds Tryd.pinned (.plain (OpenSpec.upto fnUnsafeFetchSnapshotRequestSpec)) fnUnsafeFetchSnapshotRequestUptoCard

/-- THE SECOND FORM's CARD OF 'laws.FnUnsafeCreateTopicsResponse'. -/
def fnUnsafeCreateTopicsResponseUptoCard : Claim7 := { stood := { row := fnUnsafeCreateTopicsResponseUptoRow, standIns := [], harness := (true, "4de7f2ecb590a105aa40011abb1bce728330ba3c2352dba0b288a2b5616a3967"), looks := false }, kinds := [], alts := [], laidByText := true, laidKinds := [.sentinel], laidTests := true, laidLooks := .later }
def FnUnsafeCreateTopicsResponseUptoCardSaid : Prop := Claim7.holds Tryd.pinned (.plain (OpenSpec.upto fnUnsafeCreateTopicsResponseSpec)) fnUnsafeCreateTopicsResponseUptoCard
end Rows
end Go.Proofs.YtlmaknaknlbnmaaDoor
