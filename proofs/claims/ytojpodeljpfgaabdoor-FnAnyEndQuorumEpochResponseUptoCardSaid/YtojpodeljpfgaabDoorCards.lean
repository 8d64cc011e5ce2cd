/-
  DERIVED. GIVEN WITH THE SEED: THE CARDS: each row of YtojpodeljpfgaabDoorRows.lean that lists a variable, with what it lists TIED to the program's text (the seventh form; the later family's looks); each row that meets fmt, with fmt's text TOLD by the authors' own Lean function (tested against real Go, not proved from fmt's source: count such statements apart). THE CARD IS WHAT COUNTS. Prove the row's statement (the work); the ties are given (YtojpodeljpfgaabDoorTie.lean); close each card by the builder's one call (the guide's Derived/Test/ToyasCard.lean, 'card_holds'). Laid BY PROGRAM, IN A SANDBOX (cutbox-door.mjs). By AI agents, Wed Nov 11 2026. No macro, syntax, notation, axiom, sorry.
-/
import Derived.Test.YtojpodeljpfgaabDoorRows
import GoSem.ClaimSeven
namespace Go.Proofs.YtojpodeljpfgaabDoor
namespace Rows

/-- THE TIED CARD OF 'laws.FnAnyEndQuorumEpochResponse'. -/
def fnAnyEndQuorumEpochResponseCard : Claim7 := { stood := { row := fnAnyEndQuorumEpochResponseRow, standIns := [], harness := (true, "7da7e9880b9163c8a55d8705adfbd09f1e2ba483e8499ba724f12c17dc016813"), looks := false }, kinds := [], alts := [], laidByText := true, laidKinds := [.sentinel], laidTests := true, laidLooks := .later }
def FnAnyEndQuorumEpochResponseCardSaid : Prop := Claim7.holds Tryd.pinned (.plain (OpenSpec.ofChange fnAnyEndQuorumEpochResponseSpec)) fnAnyEndQuorumEpochResponseCard

/-- THE SECOND FORM's CARD OF 'laws.FnAnyEndQuorumEpochResponse'. -/
def fnAnyEndQuorumEpochResponseUptoCard : Claim7 := { stood := { row := fnAnyEndQuorumEpochResponseUptoRow, standIns := [], harness := (true, "7da7e9880b9163c8a55d8705adfbd09f1e2ba483e8499ba724f12c17dc016813"), looks := false }, kinds := [], alts := [], laidByText := true, laidKinds := [.sentinel], laidTests := true, laidLooks := .later }
def FnAnyEndQuorumEpochResponseUptoCardSaid : Prop := Claim7.holds Tryd.pinned (.plain (OpenSpec.upto fnAnyEndQuorumEpochResponseSpec)) fnAnyEndQuorumEpochResponseUptoCard
end Rows
end Go.Proofs.YtojpodeljpfgaabDoor
