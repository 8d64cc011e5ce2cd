/-
  DERIVED. GIVEN WITH THE SEED: THE CARDS: each row of YtjkdpaefamnhhaaGreatDoorRows.lean that lists a variable, with what it lists TIED to the program's text (the seventh form; the later family's looks); each row that meets fmt, with fmt's text TOLD by the authors' own Lean function (tested against real Go, not proved from fmt's source: count such statements apart). THE CARD IS WHAT COUNTS. Prove the row's statement (the work); the ties are given (YtjkdpaefamnhhaaGreatDoorTie.lean); close each card by the builder's one call (the guide's Derived/Test/ToyasCard.lean, 'card_holds'). Laid BY PROGRAM, IN A SANDBOX (cutbox-door.mjs). By AI agents, Wed Nov 11 2026. No macro, syntax, notation, axiom, sorry.
-/
import Derived.Test.YtjkdpaefamnhhaaGreatDoorRows
import GoSem.ClaimSeven
namespace Go.Proofs.YtjkdpaefamnhhaaGreatDoor
namespace Rows

/-- THE TIED CARD OF 'laws.FnAgainRemoveRaftVoterRequest'. -/
def fnAgainRemoveRaftVoterRequestCard : Claim7 := { stood := { row := fnAgainRemoveRaftVoterRequestRow, standIns := [], harness := (true, "d1250829b4f486dd693e2bbb3672008b802fa5921fbaae130ba2f8bbbe86f974"), looks := false }, kinds := [], alts := [], laidByText := true, laidKinds := [.sentinel], laidTests := true, laidLooks := .later }
def FnAgainRemoveRaftVoterRequestCardSaid : Prop := Claim7.holds Tryz.pinned (.plain (OpenSpec.ofChange fnAgainRemoveRaftVoterRequestSpec)) fnAgainRemoveRaftVoterRequestCard

/-- THE TIED CARD OF 'laws.FnCutWriteTxnMarkersResponse'. -/
def fnCutWriteTxnMarkersResponseCard : Claim7 := { stood := { row := fnCutWriteTxnMarkersResponseRow, standIns := [], harness := (true, "d1250829b4f486dd693e2bbb3672008b802fa5921fbaae130ba2f8bbbe86f974"), looks := false }, kinds := [], alts := [], laidByText := true, laidKinds := [.sentinel], laidTests := true, laidLooks := .later }
def FnCutWriteTxnMarkersResponseCardSaid : Prop := Claim7.holds Tryz.pinned (.plain (OpenSpec.ofChange fnCutWriteTxnMarkersResponseSpec)) fnCutWriteTxnMarkersResponseCard

/-- THE TIED CARD OF 'laws.FnAgainAddPartitionsToTxnResponse'. -/
def fnAgainAddPartitionsToTxnResponseCard : Claim7 := { stood := { row := fnAgainAddPartitionsToTxnResponseRow, standIns := [], harness := (true, "d1250829b4f486dd693e2bbb3672008b802fa5921fbaae130ba2f8bbbe86f974"), looks := false }, kinds := [], alts := [], laidByText := true, laidKinds := [.sentinel], laidTests := true, laidLooks := .later }
def FnAgainAddPartitionsToTxnResponseCardSaid : Prop := Claim7.holds Tryz.pinned (.plain (OpenSpec.ofChange fnAgainAddPartitionsToTxnResponseSpec)) fnAgainAddPartitionsToTxnResponseCard

/-- THE SECOND FORM's CARD OF 'laws.FnAgainRemoveRaftVoterRequest'. -/
def fnAgainRemoveRaftVoterRequestUptoCard : Claim7 := { stood := { row := fnAgainRemoveRaftVoterRequestUptoRow, standIns := [], harness := (true, "d1250829b4f486dd693e2bbb3672008b802fa5921fbaae130ba2f8bbbe86f974"), looks := false }, kinds := [], alts := [], laidByText := true, laidKinds := [.sentinel], laidTests := true, laidLooks := .later }
def FnAgainRemoveRaftVoterRequestUptoCardSaid : Prop := Claim7.holds Tryz.pinned (.plain (OpenSpec.upto fnAgainRemoveRaftVoterRequestSpec)) fnAgainRemoveRaftVoterRequestUptoCard

/-- THE SECOND FORM's CARD OF 'laws.FnCutWriteTxnMarkersResponse'. -/
def fnCutWriteTxnMarkersResponseUptoCard : Claim7 := { stood := { row := fnCutWriteTxnMarkersResponseUptoRow, standIns := [], harness := (true, "d1250829b4f486dd693e2bbb3672008b802fa5921fbaae130ba2f8bbbe86f974"), looks := false }, kinds := [], alts := [], laidByText := true, laidKinds := [.sentinel], laidTests := true, laidLooks := .later }
def FnCutWriteTxnMarkersResponseUptoCardSaid : Prop := Claim7.holds Tryz.pinned (.plain (OpenSpec.upto fnCutWriteTxnMarkersResponseSpec)) fnCutWriteTxnMarkersResponseUptoCard

/-- THE SECOND FORM's CARD OF 'laws.FnAgainAddPartitionsToTxnResponse'. -/
def fnAgainAddPartitionsToTxnResponseUptoCard : Claim7 := { stood := { row := fnAgainAddPartitionsToTxnResponseUptoRow, standIns := [], harness := (true, "d1250829b4f486dd693e2bbb3672008b802fa5921fbaae130ba2f8bbbe86f974"), looks := false }, kinds := [], alts := [], laidByText := true, laidKinds := [.sentinel], laidTests := true, laidLooks := .later }
def FnAgainAddPartitionsToTxnResponseUptoCardSaid : Prop := Claim7.holds Tryz.pinned (.plain (OpenSpec.upto fnAgainAddPartitionsToTxnResponseSpec)) fnAgainAddPartitionsToTxnResponseUptoCard
end Rows
end Go.Proofs.YtjkdpaefamnhhaaGreatDoor
