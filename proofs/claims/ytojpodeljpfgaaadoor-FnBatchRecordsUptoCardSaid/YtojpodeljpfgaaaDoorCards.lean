/-
  DERIVED. GIVEN WITH THE SEED: THE CARDS: each row of YtojpodeljpfgaaaDoorRows.lean that lists a variable, with what it lists TIED to the program's text (the seventh form; the later family's looks); each row that meets fmt, with fmt's text TOLD by the authors' own Lean function (tested against real Go, not proved from fmt's source: count such statements apart). THE CARD IS WHAT COUNTS. Prove the row's statement (the work); the ties are given (YtojpodeljpfgaaaDoorTie.lean); close each card by the builder's one call (the guide's Derived/Test/ToyasCard.lean, 'card_holds'). Laid BY PROGRAM, IN A SANDBOX (cutbox-door.mjs). By AI agents, Wed Nov 11 2026. No macro, syntax, notation, axiom, sorry.
-/
import Derived.Test.YtojpodeljpfgaaaDoorRows
import GoSem.ClaimSeven
namespace Go.Proofs.YtojpodeljpfgaaaDoor
namespace Rows

/-- THE TIED CARD OF 'laws.FnBatchRecords'. -/
def fnBatchRecordsCard : Claim7 := { stood := { row := fnBatchRecordsRow, standIns := [], harness := (true, "046f096118dd9a42b2c8defbd696d01b9803b1b30a53247e68ce3af610a2ae80"), looks := false }, kinds := [], alts := [], laidByText := true, laidKinds := [.sentinel], laidTests := true, laidLooks := .later }
def FnBatchRecordsCardSaid : Prop := Claim7.holds Tryd.pinned (.plain (OpenSpec.ofChange fnBatchRecordsSpec)) fnBatchRecordsCard

/-- THE SECOND FORM's CARD OF 'laws.FnBatchRecords'. -/
def fnBatchRecordsUptoCard : Claim7 := { stood := { row := fnBatchRecordsUptoRow, standIns := [], harness := (true, "046f096118dd9a42b2c8defbd696d01b9803b1b30a53247e68ce3af610a2ae80"), looks := false }, kinds := [], alts := [], laidByText := true, laidKinds := [.sentinel], laidTests := true, laidLooks := .later }
def FnBatchRecordsUptoCardSaid : Prop := Claim7.holds Tryd.pinned (.plain (OpenSpec.upto fnBatchRecordsSpec)) fnBatchRecordsUptoCard
end Rows
end Go.Proofs.YtojpodeljpfgaaaDoor
