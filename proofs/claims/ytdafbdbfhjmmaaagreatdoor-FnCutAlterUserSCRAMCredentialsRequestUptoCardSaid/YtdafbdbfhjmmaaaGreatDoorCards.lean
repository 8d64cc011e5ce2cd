/-
  DERIVED. GIVEN WITH THE SEED: THE CARDS: each row of YtdafbdbfhjmmaaaGreatDoorRows.lean that lists a variable, with what it lists TIED to the program's text (the seventh form; the later family's looks); each row that meets fmt, with fmt's text TOLD by the authors' own Lean function (tested against real Go, not proved from fmt's source: count such statements apart). THE CARD IS WHAT COUNTS. Prove the row's statement (the work); the ties are given (YtdafbdbfhjmmaaaGreatDoorTie.lean); close each card by the builder's one call (the guide's Derived/Test/ToyasCard.lean, 'card_holds'). Laid BY PROGRAM, IN A SANDBOX (cutbox-door.mjs). By AI agents, Wed Nov 11 2026. No macro, syntax, notation, axiom, sorry.
-/
import Derived.Test.YtdafbdbfhjmmaaaGreatDoorRows
import GoSem.ClaimSeven
namespace Go.Proofs.YtdafbdbfhjmmaaaGreatDoor
namespace Rows

/-- THE TIED CARD OF 'laws.FnCutOffsetForLeaderEpochResponse'. -/
def fnCutOffsetForLeaderEpochResponseCard : Claim7 := { stood := { row := fnCutOffsetForLeaderEpochResponseRow, standIns := [], harness := (true, "9b1defea594f0a53dacee31e82cd3762b34e62a7b09a6b9681022b6d87471b2d"), looks := false }, kinds := [], alts := [], laidByText := true, laidKinds := [.sentinel], laidTests := true, laidLooks := .later }
def FnCutOffsetForLeaderEpochResponseCardSaid : Prop := Claim7.holds Tryz.pinned (.plain (OpenSpec.ofChange fnCutOffsetForLeaderEpochResponseSpec)) fnCutOffsetForLeaderEpochResponseCard

/-- THE TIED CARD OF 'laws.FnAgainCreateDelegationTokenRequest'. -/
def fnAgainCreateDelegationTokenRequestCard : Claim7 := { stood := { row := fnAgainCreateDelegationTokenRequestRow, standIns := [], harness := (true, "9b1defea594f0a53dacee31e82cd3762b34e62a7b09a6b9681022b6d87471b2d"), looks := false }, kinds := [], alts := [], laidByText := true, laidKinds := [.sentinel], laidTests := true, laidLooks := .later }
def FnAgainCreateDelegationTokenRequestCardSaid : Prop := Claim7.holds Tryz.pinned (.plain (OpenSpec.ofChange fnAgainCreateDelegationTokenRequestSpec)) fnAgainCreateDelegationTokenRequestCard

/-- THE TIED CARD OF 'laws.FnCutAlterUserSCRAMCredentialsRequest'. -/
def fnCutAlterUserSCRAMCredentialsRequestCard : Claim7 := { stood := { row := fnCutAlterUserSCRAMCredentialsRequestRow, standIns := [], harness := (true, "9b1defea594f0a53dacee31e82cd3762b34e62a7b09a6b9681022b6d87471b2d"), looks := false }, kinds := [], alts := [], laidByText := true, laidKinds := [.sentinel], laidTests := true, laidLooks := .later }
def FnCutAlterUserSCRAMCredentialsRequestCardSaid : Prop := Claim7.holds Tryz.pinned (.plain (OpenSpec.ofChange fnCutAlterUserSCRAMCredentialsRequestSpec)) fnCutAlterUserSCRAMCredentialsRequestCard

/-- THE TIED CARD OF 'laws.FnCutDescribeUserSCRAMCredentialsResponse'. -/
def fnCutDescribeUserSCRAMCredentialsResponseCard : Claim7 := { stood := { row := fnCutDescribeUserSCRAMCredentialsResponseRow, standIns := [], harness := (true, "9b1defea594f0a53dacee31e82cd3762b34e62a7b09a6b9681022b6d87471b2d"), looks := false }, kinds := [], alts := [], laidByText := true, laidKinds := [.sentinel], laidTests := true, laidLooks := .later }
def FnCutDescribeUserSCRAMCredentialsResponseCardSaid : Prop := Claim7.holds Tryz.pinned (.plain (OpenSpec.ofChange fnCutDescribeUserSCRAMCredentialsResponseSpec)) fnCutDescribeUserSCRAMCredentialsResponseCard

/-- THE TIED CARD OF 'laws.FnAgainTxnOffsetCommitRequest'. -/
def fnAgainTxnOffsetCommitRequestCard : Claim7 := { stood := { row := fnAgainTxnOffsetCommitRequestRow, standIns := [], harness := (true, "9b1defea594f0a53dacee31e82cd3762b34e62a7b09a6b9681022b6d87471b2d"), looks := false }, kinds := [], alts := [], laidByText := true, laidKinds := [.sentinel], laidTests := true, laidLooks := .later }
def FnAgainTxnOffsetCommitRequestCardSaid : Prop := Claim7.holds Tryz.pinned (.plain (OpenSpec.ofChange fnAgainTxnOffsetCommitRequestSpec)) fnAgainTxnOffsetCommitRequestCard

/-- THE SECOND FORM's CARD OF 'laws.FnCutOffsetForLeaderEpochResponse'. -/
def fnCutOffsetForLeaderEpochResponseUptoCard : Claim7 := { stood := { row := fnCutOffsetForLeaderEpochResponseUptoRow, standIns := [], harness := (true, "9b1defea594f0a53dacee31e82cd3762b34e62a7b09a6b9681022b6d87471b2d"), looks := false }, kinds := [], alts := [], laidByText := true, laidKinds := [.sentinel], laidTests := true, laidLooks := .later }
def FnCutOffsetForLeaderEpochResponseUptoCardSaid : Prop := Claim7.holds Tryz.pinned (.plain (OpenSpec.upto fnCutOffsetForLeaderEpochResponseSpec)) fnCutOffsetForLeaderEpochResponseUptoCard

/-- THE SECOND FORM's CARD OF 'laws.FnAgainCreateDelegationTokenRequest'. -/
def fnAgainCreateDelegationTokenRequestUptoCard : Claim7 := { stood := { row := fnAgainCreateDelegationTokenRequestUptoRow, standIns := [], harness := (true, "9b1defea594f0a53dacee31e82cd3762b34e62a7b09a6b9681022b6d87471b2d"), looks := false }, kinds := [], alts := [], laidByText := true, laidKinds := [.sentinel], laidTests := true, laidLooks := .later }
def FnAgainCreateDelegationTokenRequestUptoCardSaid : Prop := Claim7.holds Tryz.pinned (.plain (OpenSpec.upto fnAgainCreateDelegationTokenRequestSpec)) fnAgainCreateDelegationTokenRequestUptoCard

/-- THE SECOND FORM's CARD OF 'laws.FnCutAlterUserSCRAMCredentialsRequest'. -/
def fnCutAlterUserSCRAMCredentialsRequestUptoCard : Claim7 := { stood := { row := fnCutAlterUserSCRAMCredentialsRequestUptoRow, standIns := [], harness := (true, "9b1defea594f0a53dacee31e82cd3762b34e62a7b09a6b9681022b6d87471b2d"), looks := false }, kinds := [], alts := [], laidByText := true, laidKinds := [.sentinel], laidTests := true, laidLooks := .later }
def FnCutAlterUserSCRAMCredentialsRequestUptoCardSaid : Prop := Claim7.holds Tryz.pinned (.plain (OpenSpec.upto fnCutAlterUserSCRAMCredentialsRequestSpec)) fnCutAlterUserSCRAMCredentialsRequestUptoCard

/-- THE SECOND FORM's CARD OF 'laws.FnCutDescribeUserSCRAMCredentialsResponse'. -/
def fnCutDescribeUserSCRAMCredentialsResponseUptoCard : Claim7 := { stood := { row := fnCutDescribeUserSCRAMCredentialsResponseUptoRow, standIns := [], harness := (true, "9b1defea594f0a53dacee31e82cd3762b34e62a7b09a6b9681022b6d87471b2d"), looks := false }, kinds := [], alts := [], laidByText := true, laidKinds := [.sentinel], laidTests := true, laidLooks := .later }
def FnCutDescribeUserSCRAMCredentialsResponseUptoCardSaid : Prop := Claim7.holds Tryz.pinned (.plain (OpenSpec.upto fnCutDescribeUserSCRAMCredentialsResponseSpec)) fnCutDescribeUserSCRAMCredentialsResponseUptoCard

/-- THE SECOND FORM's CARD OF 'laws.FnAgainTxnOffsetCommitRequest'. -/
def fnAgainTxnOffsetCommitRequestUptoCard : Claim7 := { stood := { row := fnAgainTxnOffsetCommitRequestUptoRow, standIns := [], harness := (true, "9b1defea594f0a53dacee31e82cd3762b34e62a7b09a6b9681022b6d87471b2d"), looks := false }, kinds := [], alts := [], laidByText := true, laidKinds := [.sentinel], laidTests := true, laidLooks := .later }
def FnAgainTxnOffsetCommitRequestUptoCardSaid : Prop := Claim7.holds Tryz.pinned (.plain (OpenSpec.upto fnAgainTxnOffsetCommitRequestSpec)) fnAgainTxnOffsetCommitRequestUptoCard
end Rows
end Go.Proofs.YtdafbdbfhjmmaaaGreatDoor
