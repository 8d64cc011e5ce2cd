/-
  DERIVED. GIVEN WITH THE SEED: THE CARDS: each row of YtnjjfpgpookjlaaGreatDoorRows.lean that lists a variable, with what it lists TIED to the program's text (the seventh form; the later family's looks); each row that meets fmt, with fmt's text TOLD by the authors' own Lean function (tested against real Go, not proved from fmt's source: count such statements apart). THE CARD IS WHAT COUNTS. Prove the row's statement (the work); the ties are given (YtnjjfpgpookjlaaGreatDoorTie.lean); close each card by the builder's one call (the guide's Derived/Test/ToyasCard.lean, 'card_holds'). Laid BY PROGRAM, IN A SANDBOX (cutbox-door.mjs). By AI agents, Wed Nov 11 2026. No macro, syntax, notation, axiom, sorry.
-/
import Derived.Test.YtnjjfpgpookjlaaGreatDoorRows
import GoSem.ClaimSeven
namespace Go.Proofs.YtnjjfpgpookjlaaGreatDoor
namespace Rows

/-- THE TIED CARD OF 'laws.FnAgainVoteResponse'. -/
def fnAgainVoteResponseCard : Claim7 := { stood := { row := fnAgainVoteResponseRow, standIns := [], harness := (true, "268b0f95b58a56761ddc2a8721e2e7fed6f0df5e213b00a054d729ee97c4bf3e"), looks := false }, kinds := [], alts := [], laidByText := true, laidKinds := [.sentinel], laidTests := true, laidLooks := .later }
def FnAgainVoteResponseCardSaid : Prop := Claim7.holds Tryz.pinned (.plain (OpenSpec.ofChange fnAgainVoteResponseSpec)) fnAgainVoteResponseCard

/-- THE TIED CARD OF 'laws.FnCutFetchSnapshotRequest'. -/
def fnCutFetchSnapshotRequestCard : Claim7 := { stood := { row := fnCutFetchSnapshotRequestRow, standIns := [], harness := (true, "268b0f95b58a56761ddc2a8721e2e7fed6f0df5e213b00a054d729ee97c4bf3e"), looks := false }, kinds := [], alts := [], laidByText := true, laidKinds := [.sentinel], laidTests := true, laidLooks := .later }
def FnCutFetchSnapshotRequestCardSaid : Prop := Claim7.holds Tryz.pinned (.plain (OpenSpec.ofChange fnCutFetchSnapshotRequestSpec)) fnCutFetchSnapshotRequestCard

/-- THE SECOND FORM's CARD OF 'laws.FnAgainVoteResponse'. -/
def fnAgainVoteResponseUptoCard : Claim7 := { stood := { row := fnAgainVoteResponseUptoRow, standIns := [], harness := (true, "268b0f95b58a56761ddc2a8721e2e7fed6f0df5e213b00a054d729ee97c4bf3e"), looks := false }, kinds := [], alts := [], laidByText := true, laidKinds := [.sentinel], laidTests := true, laidLooks := .later }
def FnAgainVoteResponseUptoCardSaid : Prop := Claim7.holds Tryz.pinned (.plain (OpenSpec.upto fnAgainVoteResponseSpec)) fnAgainVoteResponseUptoCard

/-- THE SECOND FORM's CARD OF 'laws.FnCutFetchSnapshotRequest'. -/
def fnCutFetchSnapshotRequestUptoCard : Claim7 := { stood := { row := fnCutFetchSnapshotRequestUptoRow, standIns := [], harness := (true, "268b0f95b58a56761ddc2a8721e2e7fed6f0df5e213b00a054d729ee97c4bf3e"), looks := false }, kinds := [], alts := [], laidByText := true, laidKinds := [.sentinel], laidTests := true, laidLooks := .later }
def FnCutFetchSnapshotRequestUptoCardSaid : Prop := Claim7.holds Tryz.pinned (.plain (OpenSpec.upto fnCutFetchSnapshotRequestSpec)) fnCutFetchSnapshotRequestUptoCard
end Rows
end Go.Proofs.YtnjjfpgpookjlaaGreatDoor
