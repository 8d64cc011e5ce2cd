/-
  DERIVED. GIVEN WITH THE SEED: THE CARDS: each row of YtgjnllebnkjofaaDoorRows.lean that lists a variable, with what it lists TIED to the program's text (the seventh form; the later family's looks); each row that meets fmt, with fmt's text TOLD by the authors' own Lean function (tested against real Go, not proved from fmt's source: count such statements apart). THE CARD IS WHAT COUNTS. Prove the row's statement (the work); the ties are given (YtgjnllebnkjofaaDoorTie.lean); close each card by the builder's one call (the guide's Derived/Test/ToyasCard.lean, 'card_holds'). Laid BY PROGRAM, IN A SANDBOX (cutbox-door.mjs). By AI agents, Wed Nov 11 2026. No macro, syntax, notation, axiom, sorry.
-/
import Derived.Test.YtgjnllebnkjofaaDoorRows
import GoSem.ClaimSeven
namespace Go.Proofs.YtgjnllebnkjofaaDoor
namespace Rows

/-- THE TIED CARD OF 'laws.FnAgainControlRecordKey'. -/
def fnAgainControlRecordKeyCard : Claim7 := { stood := { row := fnAgainControlRecordKeyRow, standIns := [], harness := (true, "a757e90142d96d35b5650602bc402681bb347b568a8dcd395f7d975f6c8a0c9c"), looks := false }, kinds := [], alts := [], laidByText := true, laidKinds := [.sentinel], laidTests := true, laidLooks := .later }
def FnAgainControlRecordKeyCardSaid : Prop := Claim7.holds Tryd.pinned (.plain (OpenSpec.ofChange fnAgainControlRecordKeySpec)) fnAgainControlRecordKeyCard

/-- THE TIED CARD OF 'laws.FnAnyTxnMetadataKey'. -/
def fnAnyTxnMetadataKeyCard : Claim7 := { stood := { row := fnAnyTxnMetadataKeyRow, standIns := [], harness := (true, "a757e90142d96d35b5650602bc402681bb347b568a8dcd395f7d975f6c8a0c9c"), looks := false }, kinds := [], alts := [], laidByText := true, laidKinds := [.sentinel], laidTests := true, laidLooks := .later }
def FnAnyTxnMetadataKeyCardSaid : Prop := Claim7.holds Tryd.pinned (.plain (OpenSpec.ofChange fnAnyTxnMetadataKeySpec)) fnAnyTxnMetadataKeyCard

/-- THE TIED CARD OF 'laws.FnAgainOffsetDeleteResponse'. -/
def fnAgainOffsetDeleteResponseCard : Claim7 := { stood := { row := fnAgainOffsetDeleteResponseRow, standIns := [], harness := (true, "a757e90142d96d35b5650602bc402681bb347b568a8dcd395f7d975f6c8a0c9c"), looks := false }, kinds := [], alts := [], laidByText := true, laidKinds := [.sentinel], laidTests := true, laidLooks := .later }
def FnAgainOffsetDeleteResponseCardSaid : Prop := Claim7.holds Tryd.pinned (.plain (OpenSpec.ofChange fnAgainOffsetDeleteResponseSpec)) fnAgainOffsetDeleteResponseCard

/-- THE SECOND FORM's CARD OF 'laws.FnAgainControlRecordKey'. -/
def fnAgainControlRecordKeyUptoCard : Claim7 := { stood := { row := fnAgainControlRecordKeyUptoRow, standIns := [], harness := (true, "a757e90142d96d35b5650602bc402681bb347b568a8dcd395f7d975f6c8a0c9c"), looks := false }, kinds := [], alts := [], laidByText := true, laidKinds := [.sentinel], laidTests := true, laidLooks := .later }
def FnAgainControlRecordKeyUptoCardSaid : Prop := Claim7.holds Tryd.pinned (.plain (OpenSpec.upto fnAgainControlRecordKeySpec)) fnAgainControlRecordKeyUptoCard

/-- THE SECOND FORM's CARD OF 'laws.FnAnyTxnMetadataKey'. -/
def fnAnyTxnMetadataKeyUptoCard : Claim7 := { stood := { row := fnAnyTxnMetadataKeyUptoRow, standIns := [], harness := (true, "a757e90142d96d35b5650602bc402681bb347b568a8dcd395f7d975f6c8a0c9c"), looks := false }, kinds := [], alts := [], laidByText := true, laidKinds := [.sentinel], laidTests := true, laidLooks := .later }
def FnAnyTxnMetadataKeyUptoCardSaid : Prop := Claim7.holds Tryd.pinned (.plain (OpenSpec.upto fnAnyTxnMetadataKeySpec)) fnAnyTxnMetadataKeyUptoCard

/-- THE SECOND FORM's CARD OF 'laws.FnAgainOffsetDeleteResponse'. -/
def fnAgainOffsetDeleteResponseUptoCard : Claim7 := { stood := { row := fnAgainOffsetDeleteResponseUptoRow, standIns := [], harness := (true, "a757e90142d96d35b5650602bc402681bb347b568a8dcd395f7d975f6c8a0c9c"), looks := false }, kinds := [], alts := [], laidByText := true, laidKinds := [.sentinel], laidTests := true, laidLooks := .later }
def FnAgainOffsetDeleteResponseUptoCardSaid : Prop := Claim7.holds Tryd.pinned (.plain (OpenSpec.upto fnAgainOffsetDeleteResponseSpec)) fnAgainOffsetDeleteResponseUptoCard
end Rows
end Go.Proofs.YtgjnllebnkjofaaDoor
