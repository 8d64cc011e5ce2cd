/-
  DERIVED. GIVEN WITH THE SEED: THE CARDS: each row of YthdkplbonieejaaGreatDoorRows.lean that lists a variable, with what it lists TIED to the program's text (the seventh form; the later family's looks); each row that meets fmt, with fmt's text TOLD by the authors' own Lean function (tested against real Go, not proved from fmt's source: count such statements apart). THE CARD IS WHAT COUNTS. Prove the row's statement (the work); the ties are given (YthdkplbonieejaaGreatDoorTie.lean); close each card by the builder's one call (the guide's Derived/Test/ToyasCard.lean, 'card_holds'). Laid BY PROGRAM, IN A SANDBOX (cutbox-door.mjs). By AI agents, Wed Nov 11 2026. No macro, syntax, notation, axiom, sorry.
-/
import Derived.Test.YthdkplbonieejaaGreatDoorRows
import GoSem.ClaimSeven
namespace Go.Proofs.YthdkplbonieejaaGreatDoor
namespace Rows

/-- THE TIED CARD OF 'laws.FnCutStopReplicaResponse'. -/
def fnCutStopReplicaResponseCard : Claim7 := { stood := { row := fnCutStopReplicaResponseRow, standIns := [], harness := (true, "46ffc7174b5c691866f6399a5458da06fc693210eab5d5de7b1c04cd006eca6b"), looks := false }, kinds := [], alts := [], laidByText := true, laidKinds := [.sentinel], laidTests := true, laidLooks := .later }
def FnCutStopReplicaResponseCardSaid : Prop := Claim7.holds Tryz.pinned (.plain (OpenSpec.ofChange fnCutStopReplicaResponseSpec)) fnCutStopReplicaResponseCard

/-- THE TIED CARD OF 'laws.FnAgainListGroupsRequest'. -/
def fnAgainListGroupsRequestCard : Claim7 := { stood := { row := fnAgainListGroupsRequestRow, standIns := [], harness := (true, "46ffc7174b5c691866f6399a5458da06fc693210eab5d5de7b1c04cd006eca6b"), looks := false }, kinds := [], alts := [], laidByText := true, laidKinds := [.sentinel], laidTests := true, laidLooks := .later }
def FnAgainListGroupsRequestCardSaid : Prop := Claim7.holds Tryz.pinned (.plain (OpenSpec.ofChange fnAgainListGroupsRequestSpec)) fnAgainListGroupsRequestCard

/-- THE TIED CARD OF 'laws.FnAgainAlterReplicaLogDirsRequest'. -/
def fnAgainAlterReplicaLogDirsRequestCard : Claim7 := { stood := { row := fnAgainAlterReplicaLogDirsRequestRow, standIns := [], harness := (true, "46ffc7174b5c691866f6399a5458da06fc693210eab5d5de7b1c04cd006eca6b"), looks := false }, kinds := [], alts := [], laidByText := true, laidKinds := [.sentinel], laidTests := true, laidLooks := .later }
def FnAgainAlterReplicaLogDirsRequestCardSaid : Prop := Claim7.holds Tryz.pinned (.plain (OpenSpec.ofChange fnAgainAlterReplicaLogDirsRequestSpec)) fnAgainAlterReplicaLogDirsRequestCard

/-- THE SECOND FORM's CARD OF 'laws.FnCutStopReplicaResponse'. -/
def fnCutStopReplicaResponseUptoCard : Claim7 := { stood := { row := fnCutStopReplicaResponseUptoRow, standIns := [], harness := (true, "46ffc7174b5c691866f6399a5458da06fc693210eab5d5de7b1c04cd006eca6b"), looks := false }, kinds := [], alts := [], laidByText := true, laidKinds := [.sentinel], laidTests := true, laidLooks := .later }
def FnCutStopReplicaResponseUptoCardSaid : Prop := Claim7.holds Tryz.pinned (.plain (OpenSpec.upto fnCutStopReplicaResponseSpec)) fnCutStopReplicaResponseUptoCard

/-- THE SECOND FORM's CARD OF 'laws.FnAgainListGroupsRequest'. -/
def fnAgainListGroupsRequestUptoCard : Claim7 := { stood := { row := fnAgainListGroupsRequestUptoRow, standIns := [], harness := (true, "46ffc7174b5c691866f6399a5458da06fc693210eab5d5de7b1c04cd006eca6b"), looks := false }, kinds := [], alts := [], laidByText := true, laidKinds := [.sentinel], laidTests := true, laidLooks := .later }
def FnAgainListGroupsRequestUptoCardSaid : Prop := Claim7.holds Tryz.pinned (.plain (OpenSpec.upto fnAgainListGroupsRequestSpec)) fnAgainListGroupsRequestUptoCard

/-- THE SECOND FORM's CARD OF 'laws.FnAgainAlterReplicaLogDirsRequest'. -/
def fnAgainAlterReplicaLogDirsRequestUptoCard : Claim7 := { stood := { row := fnAgainAlterReplicaLogDirsRequestUptoRow, standIns := [], harness := (true, "46ffc7174b5c691866f6399a5458da06fc693210eab5d5de7b1c04cd006eca6b"), looks := false }, kinds := [], alts := [], laidByText := true, laidKinds := [.sentinel], laidTests := true, laidLooks := .later }
def FnAgainAlterReplicaLogDirsRequestUptoCardSaid : Prop := Claim7.holds Tryz.pinned (.plain (OpenSpec.upto fnAgainAlterReplicaLogDirsRequestSpec)) fnAgainAlterReplicaLogDirsRequestUptoCard
end Rows
end Go.Proofs.YthdkplbonieejaaGreatDoor
