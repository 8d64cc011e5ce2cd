/-
  DERIVED. GIVEN WITH THE SEED: THE CARDS: each row of YtidlpocllgleiaaGreatDoorRows.lean that lists a variable, with what it lists TIED to the program's text (the seventh form; the later family's looks); each row that meets fmt, with fmt's text TOLD by the authors' own Lean function (tested against real Go, not proved from fmt's source: count such statements apart). THE CARD IS WHAT COUNTS. Prove the row's statement (the work); the ties are given (YtidlpocllgleiaaGreatDoorTie.lean); close each card by the builder's one call (the guide's Derived/Test/ToyasCard.lean, 'card_holds'). Laid BY PROGRAM, IN A SANDBOX (cutbox-door.mjs). By AI agents, Wed Nov 11 2026. No macro, syntax, notation, axiom, sorry.
-/
import Derived.Test.YtidlpocllgleiaaGreatDoorRows
import GoSem.ClaimSeven
namespace Go.Proofs.YtidlpocllgleiaaGreatDoor
namespace Rows

/-- THE TIED CARD OF 'laws.FnCutGroupMetadataValue'. -/
def fnCutGroupMetadataValueCard : Claim7 := { stood := { row := fnCutGroupMetadataValueRow, standIns := [], harness := (true, "209444d19cacd2dd647c104012ff7be223b4f069874376c8ba0eebf7d0cb0c7f"), looks := false }, kinds := [], alts := [], laidByText := true, laidKinds := [.sentinel], laidTests := true, laidLooks := .later }
def FnCutGroupMetadataValueCardSaid : Prop := Claim7.holds Tryz.pinned (.plain (OpenSpec.ofChange fnCutGroupMetadataValueSpec)) fnCutGroupMetadataValueCard

/-- THE SECOND FORM's CARD OF 'laws.FnCutGroupMetadataValue'. -/
def fnCutGroupMetadataValueUptoCard : Claim7 := { stood := { row := fnCutGroupMetadataValueUptoRow, standIns := [], harness := (true, "209444d19cacd2dd647c104012ff7be223b4f069874376c8ba0eebf7d0cb0c7f"), looks := false }, kinds := [], alts := [], laidByText := true, laidKinds := [.sentinel], laidTests := true, laidLooks := .later }
def FnCutGroupMetadataValueUptoCardSaid : Prop := Claim7.holds Tryz.pinned (.plain (OpenSpec.upto fnCutGroupMetadataValueSpec)) fnCutGroupMetadataValueUptoCard
end Rows
end Go.Proofs.YtidlpocllgleiaaGreatDoor
