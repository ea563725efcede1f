/-
  DERIVED. GIVEN WITH THE SEED: THE CARDS: each row of YtfiedlfmogpanaaDoorRows.lean that lists a variable, with what it lists TIED to the program's text (the seventh form; the later family's looks); each row that meets fmt, with fmt's text TOLD by the authors' own Lean function (tested against real Go, not proved from fmt's source: count such statements apart). THE CARD IS WHAT COUNTS. Prove the row's statement (the work); the ties are given (YtfiedlfmogpanaaDoorTie.lean); close each card by the builder's one call (the guide's Derived/Test/ToyasCard.lean, 'card_holds'). Laid BY PROGRAM, IN A SANDBOX (cutbox-door.mjs). By AI agents, Wed Nov 11 2026. No macro, syntax, notation, axiom, sorry.
-/
import Derived.Test.YtfiedlfmogpanaaDoorRows
import GoSem.ClaimSeven
namespace Go.Proofs.YtfiedlfmogpanaaDoor
namespace Rows

/-- THE TIED CARD OF 'laws.FnUnsafeExpireDelegationTokenResponse'. -/
def fnUnsafeExpireDelegationTokenResponseCard : Claim7 := { stood := { row := fnUnsafeExpireDelegationTokenResponseRow, standIns := [], harness := (true, "631af2e3d46fb77a5efd4ef8db525020206ecd10c269641beb18740f3087f6c5"), looks := false }, kinds := [], alts := [], laidByText := true, laidKinds := [.sentinel], laidTests := true, laidLooks := .later }
def FnUnsafeExpireDelegationTokenResponseCardSaid : Prop := Claim7.holds Tryd.pinned (.plain (OpenSpec.ofChange fnUnsafeExpireDelegationTokenResponseSpec)) fnUnsafeExpireDelegationTokenResponseCard

/-- THE TIED CARD OF 'laws.FnUnsafeRenewDelegationTokenRequest'. -/
def fnUnsafeRenewDelegationTokenRequestCard : Claim7 := { stood := { row := fnUnsafeRenewDelegationTokenRequestRow, standIns := [], harness := (true, "631af2e3d46fb77a5efd4ef8db525020206ecd10c269641beb18740f3087f6c5"), looks := false }, kinds := [], alts := [], laidByText := true, laidKinds := [.sentinel], laidTests := true, laidLooks := .later }
def FnUnsafeRenewDelegationTokenRequestCardSaid : Prop := Claim7.holds Tryd.pinned (.plain (OpenSpec.ofChange fnUnsafeRenewDelegationTokenRequestSpec)) fnUnsafeRenewDelegationTokenRequestCard

/-- THE TIED CARD OF 'laws.FnUnsafeEnvelopeRequest'. -/
def fnUnsafeEnvelopeRequestCard : Claim7 := { stood := { row := fnUnsafeEnvelopeRequestRow, standIns := [], harness := (true, "631af2e3d46fb77a5efd4ef8db525020206ecd10c269641beb18740f3087f6c5"), looks := false }, kinds := [], alts := [], laidByText := true, laidKinds := [.sentinel], laidTests := true, laidLooks := .later }
def FnUnsafeEnvelopeRequestCardSaid : Prop := Claim7.holds Tryd.pinned (.plain (OpenSpec.ofChange fnUnsafeEnvelopeRequestSpec)) fnUnsafeEnvelopeRequestCard

/-- THE TIED CARD OF 'laws.FnUnsafeHeartbeatRequest'. -/
def fnUnsafeHeartbeatRequestCard : Claim7 := { stood := { row := fnUnsafeHeartbeatRequestRow, standIns := [], harness := (true, "631af2e3d46fb77a5efd4ef8db525020206ecd10c269641beb18740f3087f6c5"), looks := false }, kinds := [], alts := [], laidByText := true, laidKinds := [.sentinel], laidTests := true, laidLooks := .later }
def FnUnsafeHeartbeatRequestCardSaid : Prop := Claim7.holds Tryd.pinned (.plain (OpenSpec.ofChange fnUnsafeHeartbeatRequestSpec)) fnUnsafeHeartbeatRequestCard

/-- THE TIED CARD OF 'laws.FnUnsafeSASLAuthenticateResponse'. -/
def fnUnsafeSASLAuthenticateResponseCard : Claim7 := { stood := { row := fnUnsafeSASLAuthenticateResponseRow, standIns := [], harness := (true, "631af2e3d46fb77a5efd4ef8db525020206ecd10c269641beb18740f3087f6c5"), looks := false }, kinds := [], alts := [], laidByText := true, laidKinds := [.sentinel], laidTests := true, laidLooks := .later }
def FnUnsafeSASLAuthenticateResponseCardSaid : Prop := Claim7.holds Tryd.pinned (.plain (OpenSpec.ofChange fnUnsafeSASLAuthenticateResponseSpec)) fnUnsafeSASLAuthenticateResponseCard

/-- THE TIED CARD OF 'laws.FnUnsafeLeaderChangeMessage'. -/
def fnUnsafeLeaderChangeMessageCard : Claim7 := { stood := { row := fnUnsafeLeaderChangeMessageRow, standIns := [], harness := (true, "631af2e3d46fb77a5efd4ef8db525020206ecd10c269641beb18740f3087f6c5"), looks := false }, kinds := [], alts := [], laidByText := true, laidKinds := [.sentinel], laidTests := true, laidLooks := .later }
def FnUnsafeLeaderChangeMessageCardSaid : Prop := Claim7.holds Tryd.pinned (.plain (OpenSpec.ofChange fnUnsafeLeaderChangeMessageSpec)) fnUnsafeLeaderChangeMessageCard

/-- THE TIED CARD OF 'laws.FnUnsafeDescribeProducersRequest'. -/
def fnUnsafeDescribeProducersRequestCard : Claim7 := { stood := { row := fnUnsafeDescribeProducersRequestRow, standIns := [], harness := (true, "631af2e3d46fb77a5efd4ef8db525020206ecd10c269641beb18740f3087f6c5"), looks := false }, kinds := [], alts := [], laidByText := true, laidKinds := [.sentinel], laidTests := true, laidLooks := .later }
def FnUnsafeDescribeProducersRequestCardSaid : Prop := Claim7.holds Tryd.pinned (.plain (OpenSpec.ofChange fnUnsafeDescribeProducersRequestSpec)) fnUnsafeDescribeProducersRequestCard

/-- THE TIED CARD OF 'laws.FnUnsafeUpdateFeaturesRequest'. -/
def fnUnsafeUpdateFeaturesRequestCard : Claim7 := { stood := { row := fnUnsafeUpdateFeaturesRequestRow, standIns := [], harness := (true, "631af2e3d46fb77a5efd4ef8db525020206ecd10c269641beb18740f3087f6c5"), looks := false }, kinds := [], alts := [], laidByText := true, laidKinds := [.sentinel], laidTests := true, laidLooks := .later }
def FnUnsafeUpdateFeaturesRequestCardSaid : Prop := Claim7.holds Tryd.pinned (.plain (OpenSpec.ofChange fnUnsafeUpdateFeaturesRequestSpec)) fnUnsafeUpdateFeaturesRequestCard

/-- THE TIED CARD OF 'laws.FnUnsafeOffsetForLeaderEpochRequest'. -/
def fnUnsafeOffsetForLeaderEpochRequestCard : Claim7 := { stood := { row := fnUnsafeOffsetForLeaderEpochRequestRow, standIns := [], harness := (true, "631af2e3d46fb77a5efd4ef8db525020206ecd10c269641beb18740f3087f6c5"), looks := false }, kinds := [], alts := [], laidByText := true, laidKinds := [.sentinel], laidTests := true, laidLooks := .later }
def FnUnsafeOffsetForLeaderEpochRequestCardSaid : Prop := Claim7.holds Tryd.pinned (.plain (OpenSpec.ofChange fnUnsafeOffsetForLeaderEpochRequestSpec)) fnUnsafeOffsetForLeaderEpochRequestCard

/-- THE TIED CARD OF 'laws.FnUnsafeDeleteRecordsResponse'. -/
def fnUnsafeDeleteRecordsResponseCard : Claim7 := { stood := { row := fnUnsafeDeleteRecordsResponseRow, standIns := [], harness := (true, "631af2e3d46fb77a5efd4ef8db525020206ecd10c269641beb18740f3087f6c5"), looks := false }, kinds := [], alts := [], laidByText := true, laidKinds := [.sentinel], laidTests := true, laidLooks := .later }
def FnUnsafeDeleteRecordsResponseCardSaid : Prop := Claim7.holds Tryd.pinned (.plain (OpenSpec.ofChange fnUnsafeDeleteRecordsResponseSpec)) fnUnsafeDeleteRecordsResponseCard

/-- THE SECOND FORM's CARD OF 'laws.FnUnsafeExpireDelegationTokenResponse'. -/
def fnUnsafeExpireDelegationTokenResponseUptoCard : Claim7 := { stood := { row := fnUnsafeExpireDelegationTokenResponseUptoRow, standIns := [], harness := (true, "631af2e3d46fb77a5efd4ef8db525020206ecd10c269641beb18740f3087f6c5"), looks := false }, kinds := [], alts := [], laidByText := true, laidKinds := [.sentinel], laidTests := true, laidLooks := .later }
def FnUnsafeExpireDelegationTokenResponseUptoCardSaid : Prop := Claim7.holds Tryd.pinned (.plain (OpenSpec.upto fnUnsafeExpireDelegationTokenResponseSpec)) fnUnsafeExpireDelegationTokenResponseUptoCard

/-- THE SECOND FORM's CARD OF 'laws.FnUnsafeRenewDelegationTokenRequest'. -/
def fnUnsafeRenewDelegationTokenRequestUptoCard : Claim7 := { stood := { row := fnUnsafeRenewDelegationTokenRequestUptoRow, standIns := [], harness := (true, "631af2e3d46fb77a5efd4ef8db525020206ecd10c269641beb18740f3087f6c5"), looks := false }, kinds := [], alts := [], laidByText := true, laidKinds := [.sentinel], laidTests := true, laidLooks := .later }
def FnUnsafeRenewDelegationTokenRequestUptoCardSaid : Prop := Claim7.holds Tryd.pinned (.plain (OpenSpec.upto fnUnsafeRenewDelegationTokenRequestSpec)) fnUnsafeRenewDelegationTokenRequestUptoCard

/-- THE SECOND FORM's CARD OF 'laws.FnUnsafeEnvelopeRequest'. -/
def fnUnsafeEnvelopeRequestUptoCard : Claim7 := { stood := { row := fnUnsafeEnvelopeRequestUptoRow, standIns := [], harness := (true, "631af2e3d46fb77a5efd4ef8db525020206ecd10c269641beb18740f3087f6c5"), looks := false }, kinds := [], alts := [], laidByText := true, laidKinds := [.sentinel], laidTests := true, laidLooks := .later }
def FnUnsafeEnvelopeRequestUptoCardSaid : Prop := Claim7.holds Tryd.pinned (.plain (OpenSpec.upto fnUnsafeEnvelopeRequestSpec)) fnUnsafeEnvelopeRequestUptoCard

/-- THE SECOND FORM's CARD OF 'laws.FnUnsafeHeartbeatRequest'. -/
def fnUnsafeHeartbeatRequestUptoCard : Claim7 := { stood := { row := fnUnsafeHeartbeatRequestUptoRow, standIns := [], harness := (true, "631af2e3d46fb77a5efd4ef8db525020206ecd10c269641beb18740f3087f6c5"), looks := false }, kinds := [], alts := [], laidByText := true, laidKinds := [.sentinel], laidTests := true, laidLooks := .later }
def FnUnsafeHeartbeatRequestUptoCardSaid : Prop := Claim7.holds Tryd.pinned (.plain (OpenSpec.upto fnUnsafeHeartbeatRequestSpec)) fnUnsafeHeartbeatRequestUptoCard

/-- THE SECOND FORM's CARD OF 'laws.FnUnsafeSASLAuthenticateResponse'. -/
def fnUnsafeSASLAuthenticateResponseUptoCard : Claim7 := { stood := { row := fnUnsafeSASLAuthenticateResponseUptoRow, standIns := [], harness := (true, "631af2e3d46fb77a5efd4ef8db525020206ecd10c269641beb18740f3087f6c5"), looks := false }, kinds := [], alts := [], laidByText := true, laidKinds := [.sentinel], laidTests := true, laidLooks := .later }
def FnUnsafeSASLAuthenticateResponseUptoCardSaid : Prop := Claim7.holds Tryd.pinned (.plain (OpenSpec.upto fnUnsafeSASLAuthenticateResponseSpec)) fnUnsafeSASLAuthenticateResponseUptoCard

/-- THE SECOND FORM's CARD OF 'laws.FnUnsafeLeaderChangeMessage'. -/
def fnUnsafeLeaderChangeMessageUptoCard : Claim7 := { stood := { row := fnUnsafeLeaderChangeMessageUptoRow, standIns := [], harness := (true, "631af2e3d46fb77a5efd4ef8db525020206ecd10c269641beb18740f3087f6c5"), looks := false }, kinds := [], alts := [], laidByText := true, laidKinds := [.sentinel], laidTests := true, laidLooks := .later }
def FnUnsafeLeaderChangeMessageUptoCardSaid : Prop := Claim7.holds Tryd.pinned (.plain (OpenSpec.upto fnUnsafeLeaderChangeMessageSpec)) fnUnsafeLeaderChangeMessageUptoCard

/-- THE SECOND FORM's CARD OF 'laws.FnUnsafeDescribeProducersRequest'. -/
def fnUnsafeDescribeProducersRequestUptoCard : Claim7 := { stood := { row := fnUnsafeDescribeProducersRequestUptoRow, standIns := [], harness := (true, "631af2e3d46fb77a5efd4ef8db525020206ecd10c269641beb18740f3087f6c5"), looks := false }, kinds := [], alts := [], laidByText := true, laidKinds := [.sentinel], laidTests := true, laidLooks := .later }
def FnUnsafeDescribeProducersRequestUptoCardSaid : Prop := Claim7.holds Tryd.pinned (.plain (OpenSpec.upto fnUnsafeDescribeProducersRequestSpec)) fnUnsafeDescribeProducersRequestUptoCard

/-- THE SECOND FORM's CARD OF 'laws.FnUnsafeUpdateFeaturesRequest'. -/
def fnUnsafeUpdateFeaturesRequestUptoCard : Claim7 := { stood := { row := fnUnsafeUpdateFeaturesRequestUptoRow, standIns := [], harness := (true, "631af2e3d46fb77a5efd4ef8db525020206ecd10c269641beb18740f3087f6c5"), looks := false }, kinds := [], alts := [], laidByText := true, laidKinds := [.sentinel], laidTests := true, laidLooks := .later }
def FnUnsafeUpdateFeaturesRequestUptoCardSaid : Prop := Claim7.holds Tryd.pinned (.plain (OpenSpec.upto fnUnsafeUpdateFeaturesRequestSpec)) fnUnsafeUpdateFeaturesRequestUptoCard

/-- THE SECOND FORM's CARD OF 'laws.FnUnsafeOffsetForLeaderEpochRequest'. -/
def fnUnsafeOffsetForLeaderEpochRequestUptoCard : Claim7 := { stood := { row := fnUnsafeOffsetForLeaderEpochRequestUptoRow, standIns := [], harness := (true, "631af2e3d46fb77a5efd4ef8db525020206ecd10c269641beb18740f3087f6c5"), looks := false }, kinds := [], alts := [], laidByText := true, laidKinds := [.sentinel], laidTests := true, laidLooks := .later }
def FnUnsafeOffsetForLeaderEpochRequestUptoCardSaid : Prop := Claim7.holds Tryd.pinned (.plain (OpenSpec.upto fnUnsafeOffsetForLeaderEpochRequestSpec)) fnUnsafeOffsetForLeaderEpochRequestUptoCard

/-- THE SECOND FORM's CARD OF 'laws.FnUnsafeDeleteRecordsResponse'. -/
def fnUnsafeDeleteRecordsResponseUptoCard : Claim7 := { stood := { row := fnUnsafeDeleteRecordsResponseUptoRow, standIns := [], harness := (true, "631af2e3d46fb77a5efd4ef8db525020206ecd10c269641beb18740f3087f6c5"), looks := false }, kinds := [], alts := [], laidByText := true, laidKinds := [.sentinel], laidTests := true, laidLooks := .later }
def FnUnsafeDeleteRecordsResponseUptoCardSaid : Prop := Claim7.holds Tryd.pinned (.plain (OpenSpec.upto fnUnsafeDeleteRecordsResponseSpec)) fnUnsafeDeleteRecordsResponseUptoCard
end Rows
end Go.Proofs.YtfiedlfmogpanaaDoor
