/-
  DERIVED. GIVEN WITH THE SEED: THE CARDS: each row of YtkodgaelpllhgaaGreatDoorRRows.lean that lists a variable, with what it lists TIED to the program's text (the seventh form; the later family's looks); each row that meets fmt, with fmt's text TOLD by the authors' own Lean function (tested against real Go, not proved from fmt's source: count such statements apart). THE CARD IS WHAT COUNTS. Prove the row's statement (the work); the ties are given (YtkodgaelpllhgaaGreatDoorRTie.lean); close each card by the builder's one call (the guide's Derived/Test/ToyasCard.lean, 'card_holds'). Laid BY PROGRAM, IN A SANDBOX (cutbox-door.mjs). By AI agents, Wed Nov 11 2026. No macro, syntax, notation, axiom, sorry.
-/
import Derived.Test.YtkodgaelpllhgaaGreatDoorRRows
import GoSem.ClaimSeven
namespace Go.Proofs.YtkodgaelpllhgaaGreatDoorR
namespace Rows

/-- THE TIED CARD OF 'laws.FnCutDeleteTopicsResponse'. -/
def fnCutDeleteTopicsResponseCard : Claim7 := { stood := { row := fnCutDeleteTopicsResponseRow, standIns := [], harness := (true, "71756a78650dbe69920946e67ba91b228c8b2fb41941c5be9eb9c536f0431724"), looks := false }, kinds := [], alts := [], laidByText := true, laidKinds := [.sentinel], laidTests := true, laidLooks := .later }
def FnCutDeleteTopicsResponseCardSaid : Prop := Claim7.holds Tryz.pinned (.plain (OpenSpec.ofChange fnCutDeleteTopicsResponseSpec)) fnCutDeleteTopicsResponseCard

/-- THE SECOND FORM's CARD OF 'laws.FnCutDeleteTopicsResponse'. -/
def fnCutDeleteTopicsResponseUptoCard : Claim7 := { stood := { row := fnCutDeleteTopicsResponseUptoRow, standIns := [], harness := (true, "71756a78650dbe69920946e67ba91b228c8b2fb41941c5be9eb9c536f0431724"), looks := false }, kinds := [], alts := [], laidByText := true, laidKinds := [.sentinel], laidTests := true, laidLooks := .later }
def FnCutDeleteTopicsResponseUptoCardSaid : Prop := Claim7.holds Tryz.pinned (.plain (OpenSpec.upto fnCutDeleteTopicsResponseSpec)) fnCutDeleteTopicsResponseUptoCard
end Rows
end Go.Proofs.YtkodgaelpllhgaaGreatDoorR
