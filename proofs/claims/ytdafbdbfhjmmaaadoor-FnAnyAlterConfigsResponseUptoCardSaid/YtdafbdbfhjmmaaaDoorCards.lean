/-
  DERIVED. GIVEN WITH THE SEED: THE CARDS: each row of YtdafbdbfhjmmaaaDoorRows.lean that lists a variable, with what it lists TIED to the program's text (the seventh form; the later family's looks); each row that meets fmt, with fmt's text TOLD by the authors' own Lean function (tested against real Go, not proved from fmt's source: count such statements apart). THE CARD IS WHAT COUNTS. Prove the row's statement (the work); the ties are given (YtdafbdbfhjmmaaaDoorTie.lean); close each card by the builder's one call (the guide's Derived/Test/ToyasCard.lean, 'card_holds'). Laid BY PROGRAM, IN A SANDBOX (cutbox-door.mjs). By AI agents, Wed Nov 11 2026. No macro, syntax, notation, axiom, sorry.
-/
import Derived.Test.YtdafbdbfhjmmaaaDoorRows
import GoSem.ClaimSeven
namespace Go.Proofs.YtdafbdbfhjmmaaaDoor
namespace Rows

/-- THE TIED CARD OF 'laws.FnAnyAlterConfigsResponse'. -/
def fnAnyAlterConfigsResponseCard : Claim7 := { stood := { row := fnAnyAlterConfigsResponseRow, standIns := [], harness := (true, "86b3fcca1b40eba7879bcbee5e6223587260003557f530be8801000eea96e7d6"), looks := false }, kinds := [], alts := [], laidByText := true, laidKinds := [.sentinel], laidTests := true, laidLooks := .later }
def FnAnyAlterConfigsResponseCardSaid : Prop := Claim7.holds Tryd.pinned (.plain (OpenSpec.ofChange fnAnyAlterConfigsResponseSpec)) fnAnyAlterConfigsResponseCard

/-- THE SECOND FORM's CARD OF 'laws.FnAnyAlterConfigsResponse'. -/
def fnAnyAlterConfigsResponseUptoCard : Claim7 := { stood := { row := fnAnyAlterConfigsResponseUptoRow, standIns := [], harness := (true, "86b3fcca1b40eba7879bcbee5e6223587260003557f530be8801000eea96e7d6"), looks := false }, kinds := [], alts := [], laidByText := true, laidKinds := [.sentinel], laidTests := true, laidLooks := .later }
def FnAnyAlterConfigsResponseUptoCardSaid : Prop := Claim7.holds Tryd.pinned (.plain (OpenSpec.upto fnAnyAlterConfigsResponseSpec)) fnAnyAlterConfigsResponseUptoCard
end Rows
end Go.Proofs.YtdafbdbfhjmmaaaDoor
