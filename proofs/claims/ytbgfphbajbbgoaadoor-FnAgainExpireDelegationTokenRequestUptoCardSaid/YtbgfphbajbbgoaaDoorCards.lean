/-
  DERIVED. GIVEN WITH THE SEED: THE CARDS: each row of YtbgfphbajbbgoaaDoorRows.lean that lists a variable, with what it lists TIED to the program's text (the seventh form; the later family's looks); each row that meets fmt, with fmt's text TOLD by the authors' own Lean function (tested against real Go, not proved from fmt's source: count such statements apart). THE CARD IS WHAT COUNTS. Prove the row's statement (the work); the ties are given (YtbgfphbajbbgoaaDoorTie.lean); close each card by the builder's one call (the guide's Derived/Test/ToyasCard.lean, 'card_holds'). Laid BY PROGRAM, IN A SANDBOX (cutbox-door.mjs). By AI agents, Wed Nov 11 2026. No macro, syntax, notation, axiom, sorry.
-/
import Derived.Test.YtbgfphbajbbgoaaDoorRows
import GoSem.ClaimSeven
namespace Go.Proofs.YtbgfphbajbbgoaaDoor
namespace Rows

/-- THE TIED CARD OF 'laws.FnAnyGetTelemetrySubscriptionsRequest'. -/
def fnAnyGetTelemetrySubscriptionsRequestCard : Claim7 := { stood := { row := fnAnyGetTelemetrySubscriptionsRequestRow, standIns := [], harness := (true, "1f6e412a6adb8ffb6b3d95d0cf61c9280ede5671f7ec785864de769df4ee9087"), looks := false }, kinds := [], alts := [], laidByText := true, laidKinds := [.sentinel], laidTests := true, laidLooks := .later }
def FnAnyGetTelemetrySubscriptionsRequestCardSaid : Prop := Claim7.holds Tryd.pinned (.plain (OpenSpec.ofChange fnAnyGetTelemetrySubscriptionsRequestSpec)) fnAnyGetTelemetrySubscriptionsRequestCard

/-- THE TIED CARD OF 'laws.FnCutSASLAuthenticateRequest'. -/
def fnCutSASLAuthenticateRequestCard : Claim7 := { stood := { row := fnCutSASLAuthenticateRequestRow, standIns := [], harness := (true, "1f6e412a6adb8ffb6b3d95d0cf61c9280ede5671f7ec785864de769df4ee9087"), looks := false }, kinds := [], alts := [], laidByText := true, laidKinds := [.sentinel], laidTests := true, laidLooks := .later }
def FnCutSASLAuthenticateRequestCardSaid : Prop := Claim7.holds Tryd.pinned (.plain (OpenSpec.ofChange fnCutSASLAuthenticateRequestSpec)) fnCutSASLAuthenticateRequestCard

/-- THE TIED CARD OF 'laws.FnAgainExpireDelegationTokenRequest'. -/
def fnAgainExpireDelegationTokenRequestCard : Claim7 := { stood := { row := fnAgainExpireDelegationTokenRequestRow, standIns := [], harness := (true, "1f6e412a6adb8ffb6b3d95d0cf61c9280ede5671f7ec785864de769df4ee9087"), looks := false }, kinds := [], alts := [], laidByText := true, laidKinds := [.sentinel], laidTests := true, laidLooks := .later }
def FnAgainExpireDelegationTokenRequestCardSaid : Prop := Claim7.holds Tryd.pinned (.plain (OpenSpec.ofChange fnAgainExpireDelegationTokenRequestSpec)) fnAgainExpireDelegationTokenRequestCard

/-- THE TIED CARD OF 'laws.FnAnyAssignReplicasToDirsRequest'. -/
def fnAnyAssignReplicasToDirsRequestCard : Claim7 := { stood := { row := fnAnyAssignReplicasToDirsRequestRow, standIns := [], harness := (true, "1f6e412a6adb8ffb6b3d95d0cf61c9280ede5671f7ec785864de769df4ee9087"), looks := false }, kinds := [], alts := [], laidByText := true, laidKinds := [.sentinel], laidTests := true, laidLooks := .later }
def FnAnyAssignReplicasToDirsRequestCardSaid : Prop := Claim7.holds Tryd.pinned (.plain (OpenSpec.ofChange fnAnyAssignReplicasToDirsRequestSpec)) fnAnyAssignReplicasToDirsRequestCard

/-- THE TIED CARD OF 'laws.FnAnyLeaderAndISRResponse'. -/
def fnAnyLeaderAndISRResponseCard : Claim7 := { stood := { row := fnAnyLeaderAndISRResponseRow, standIns := [], harness := (true, "1f6e412a6adb8ffb6b3d95d0cf61c9280ede5671f7ec785864de769df4ee9087"), looks := false }, kinds := [], alts := [], laidByText := true, laidKinds := [.sentinel], laidTests := true, laidLooks := .later }
def FnAnyLeaderAndISRResponseCardSaid : Prop := Claim7.holds Tryd.pinned (.plain (OpenSpec.ofChange fnAnyLeaderAndISRResponseSpec)) fnAnyLeaderAndISRResponseCard

/-- THE SECOND FORM's CARD OF 'laws.FnAnyGetTelemetrySubscriptionsRequest'. -/
def fnAnyGetTelemetrySubscriptionsRequestUptoCard : Claim7 := { stood := { row := fnAnyGetTelemetrySubscriptionsRequestUptoRow, standIns := [], harness := (true, "1f6e412a6adb8ffb6b3d95d0cf61c9280ede5671f7ec785864de769df4ee9087"), looks := false }, kinds := [], alts := [], laidByText := true, laidKinds := [.sentinel], laidTests := true, laidLooks := .later }
def FnAnyGetTelemetrySubscriptionsRequestUptoCardSaid : Prop := Claim7.holds Tryd.pinned (.plain (OpenSpec.upto fnAnyGetTelemetrySubscriptionsRequestSpec)) fnAnyGetTelemetrySubscriptionsRequestUptoCard

/-- THE SECOND FORM's CARD OF 'laws.FnCutSASLAuthenticateRequest'. -/
def fnCutSASLAuthenticateRequestUptoCard : Claim7 := { stood := { row := fnCutSASLAuthenticateRequestUptoRow, standIns := [], harness := (true, "1f6e412a6adb8ffb6b3d95d0cf61c9280ede5671f7ec785864de769df4ee9087"), looks := false }, kinds := [], alts := [], laidByText := true, laidKinds := [.sentinel], laidTests := true, laidLooks := .later }
def FnCutSASLAuthenticateRequestUptoCardSaid : Prop := Claim7.holds Tryd.pinned (.plain (OpenSpec.upto fnCutSASLAuthenticateRequestSpec)) fnCutSASLAuthenticateRequestUptoCard

/-- THE SECOND FORM's CARD OF 'laws.FnAgainExpireDelegationTokenRequest'. -/
def fnAgainExpireDelegationTokenRequestUptoCard : Claim7 := { stood := { row := fnAgainExpireDelegationTokenRequestUptoRow, standIns := [], harness := (true, "1f6e412a6adb8ffb6b3d95d0cf61c9280ede5671f7ec785864de769df4ee9087"), looks := false }, kinds := [], alts := [], laidByText := true, laidKinds := [.sentinel], laidTests := true, laidLooks := .later }
def FnAgainExpireDelegationTokenRequestUptoCardSaid : Prop := Claim7.holds Tryd.pinned (.plain (OpenSpec.upto fnAgainExpireDelegationTokenRequestSpec)) fnAgainExpireDelegationTokenRequestUptoCard

/-- THE SECOND FORM's CARD OF 'laws.FnAnyAssignReplicasToDirsRequest'. -/
def fnAnyAssignReplicasToDirsRequestUptoCard : Claim7 := { stood := { row := fnAnyAssignReplicasToDirsRequestUptoRow, standIns := [], harness := (true, "1f6e412a6adb8ffb6b3d95d0cf61c9280ede5671f7ec785864de769df4ee9087"), looks := false }, kinds := [], alts := [], laidByText := true, laidKinds := [.sentinel], laidTests := true, laidLooks := .later }
def FnAnyAssignReplicasToDirsRequestUptoCardSaid : Prop := Claim7.holds Tryd.pinned (.plain (OpenSpec.upto fnAnyAssignReplicasToDirsRequestSpec)) fnAnyAssignReplicasToDirsRequestUptoCard

/-- THE SECOND FORM's CARD OF 'laws.FnAnyLeaderAndISRResponse'. -/
def fnAnyLeaderAndISRResponseUptoCard : Claim7 := { stood := { row := fnAnyLeaderAndISRResponseUptoRow, standIns := [], harness := (true, "1f6e412a6adb8ffb6b3d95d0cf61c9280ede5671f7ec785864de769df4ee9087"), looks := false }, kinds := [], alts := [], laidByText := true, laidKinds := [.sentinel], laidTests := true, laidLooks := .later }
def FnAnyLeaderAndISRResponseUptoCardSaid : Prop := Claim7.holds Tryd.pinned (.plain (OpenSpec.upto fnAnyLeaderAndISRResponseSpec)) fnAnyLeaderAndISRResponseUptoCard
end Rows
end Go.Proofs.YtbgfphbajbbgoaaDoor
