/-
  DERIVED. GIVEN WITH THE SEED: THE CARDS: each row of YtbgfphbajbbgoaaGreatDoorRows.lean that lists a variable, with what it lists TIED to the program's text (the seventh form; the later family's looks); each row that meets fmt, with fmt's text TOLD by the authors' own Lean function (tested against real Go, not proved from fmt's source: count such statements apart). THE CARD IS WHAT COUNTS. Prove the row's statement (the work); the ties are given (YtbgfphbajbbgoaaGreatDoorTie.lean); close each card by the builder's one call (the guide's Derived/Test/ToyasCard.lean, 'card_holds'). Laid BY PROGRAM, IN A SANDBOX (cutbox-door.mjs). By AI agents, Wed Nov 11 2026. No macro, syntax, notation, axiom, sorry.
-/
import Derived.Test.YtbgfphbajbbgoaaGreatDoorRows
import GoSem.ClaimSeven
namespace Go.Proofs.YtbgfphbajbbgoaaGreatDoor
namespace Rows

/-- THE TIED CARD OF 'laws.FnCutInitializeShareGroupStateResponse'. -/
def fnCutInitializeShareGroupStateResponseCard : Claim7 := { stood := { row := fnCutInitializeShareGroupStateResponseRow, standIns := [], harness := (true, "5c3203797738bc0859fde1da7142c8f8404d1c2f3da35df3b5c5bfcd1034f45e"), looks := false }, kinds := [], alts := [], laidByText := true, laidKinds := [.sentinel], laidTests := true, laidLooks := .later }
def FnCutInitializeShareGroupStateResponseCardSaid : Prop := Claim7.holds Tryz.pinned (.plain (OpenSpec.ofChange fnCutInitializeShareGroupStateResponseSpec)) fnCutInitializeShareGroupStateResponseCard

/-- THE TIED CARD OF 'laws.FnAgainIncrementalAlterConfigsResponse'. -/
def fnAgainIncrementalAlterConfigsResponseCard : Claim7 := { stood := { row := fnAgainIncrementalAlterConfigsResponseRow, standIns := [], harness := (true, "5c3203797738bc0859fde1da7142c8f8404d1c2f3da35df3b5c5bfcd1034f45e"), looks := false }, kinds := [], alts := [], laidByText := true, laidKinds := [.sentinel], laidTests := true, laidLooks := .later }
def FnAgainIncrementalAlterConfigsResponseCardSaid : Prop := Claim7.holds Tryz.pinned (.plain (OpenSpec.ofChange fnAgainIncrementalAlterConfigsResponseSpec)) fnAgainIncrementalAlterConfigsResponseCard

/-- THE TIED CARD OF 'laws.FnAgainDeleteShareGroupOffsetsResponse'. -/
def fnAgainDeleteShareGroupOffsetsResponseCard : Claim7 := { stood := { row := fnAgainDeleteShareGroupOffsetsResponseRow, standIns := [], harness := (true, "5c3203797738bc0859fde1da7142c8f8404d1c2f3da35df3b5c5bfcd1034f45e"), looks := false }, kinds := [], alts := [], laidByText := true, laidKinds := [.sentinel], laidTests := true, laidLooks := .later }
def FnAgainDeleteShareGroupOffsetsResponseCardSaid : Prop := Claim7.holds Tryz.pinned (.plain (OpenSpec.ofChange fnAgainDeleteShareGroupOffsetsResponseSpec)) fnAgainDeleteShareGroupOffsetsResponseCard

/-- THE SECOND FORM's CARD OF 'laws.FnCutInitializeShareGroupStateResponse'. -/
def fnCutInitializeShareGroupStateResponseUptoCard : Claim7 := { stood := { row := fnCutInitializeShareGroupStateResponseUptoRow, standIns := [], harness := (true, "5c3203797738bc0859fde1da7142c8f8404d1c2f3da35df3b5c5bfcd1034f45e"), looks := false }, kinds := [], alts := [], laidByText := true, laidKinds := [.sentinel], laidTests := true, laidLooks := .later }
def FnCutInitializeShareGroupStateResponseUptoCardSaid : Prop := Claim7.holds Tryz.pinned (.plain (OpenSpec.upto fnCutInitializeShareGroupStateResponseSpec)) fnCutInitializeShareGroupStateResponseUptoCard

/-- THE SECOND FORM's CARD OF 'laws.FnAgainIncrementalAlterConfigsResponse'. -/
def fnAgainIncrementalAlterConfigsResponseUptoCard : Claim7 := { stood := { row := fnAgainIncrementalAlterConfigsResponseUptoRow, standIns := [], harness := (true, "5c3203797738bc0859fde1da7142c8f8404d1c2f3da35df3b5c5bfcd1034f45e"), looks := false }, kinds := [], alts := [], laidByText := true, laidKinds := [.sentinel], laidTests := true, laidLooks := .later }
def FnAgainIncrementalAlterConfigsResponseUptoCardSaid : Prop := Claim7.holds Tryz.pinned (.plain (OpenSpec.upto fnAgainIncrementalAlterConfigsResponseSpec)) fnAgainIncrementalAlterConfigsResponseUptoCard

/-- THE SECOND FORM's CARD OF 'laws.FnAgainDeleteShareGroupOffsetsResponse'. -/
def fnAgainDeleteShareGroupOffsetsResponseUptoCard : Claim7 := { stood := { row := fnAgainDeleteShareGroupOffsetsResponseUptoRow, standIns := [], harness := (true, "5c3203797738bc0859fde1da7142c8f8404d1c2f3da35df3b5c5bfcd1034f45e"), looks := false }, kinds := [], alts := [], laidByText := true, laidKinds := [.sentinel], laidTests := true, laidLooks := .later }
def FnAgainDeleteShareGroupOffsetsResponseUptoCardSaid : Prop := Claim7.holds Tryz.pinned (.plain (OpenSpec.upto fnAgainDeleteShareGroupOffsetsResponseSpec)) fnAgainDeleteShareGroupOffsetsResponseUptoCard
end Rows
end Go.Proofs.YtbgfphbajbbgoaaGreatDoor
