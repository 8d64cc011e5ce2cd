/-
  DERIVED. GIVEN WITH THE SEED: THE CARDS: each row of YtaknanmlhajmcaaDoorRows.lean that lists a variable, with what it lists TIED to the program's text (the seventh form; the later family's looks); each row that meets fmt, with fmt's text TOLD by the authors' own Lean function (tested against real Go, not proved from fmt's source: count such statements apart). THE CARD IS WHAT COUNTS. Prove the row's statement (the work); the ties are given (YtaknanmlhajmcaaDoorTie.lean); close each card by the builder's one call (the guide's Derived/Test/ToyasCard.lean, 'card_holds'). Laid BY PROGRAM, IN A SANDBOX (cutbox-door.mjs). By AI agents, Wed Nov 11 2026. No macro, syntax, notation, axiom, sorry.
-/
import Derived.Test.YtaknanmlhajmcaaDoorRows
import GoSem.ClaimSeven
namespace Go.Proofs.YtaknanmlhajmcaaDoor
namespace Rows

/-- THE TIED CARD OF 'laws.FnAnyShareAcknowledgeRequest'. -/
def fnAnyShareAcknowledgeRequestCard : Claim7 := { stood := { row := fnAnyShareAcknowledgeRequestRow, standIns := [], harness := (true, "7b42e500a20df1560d8d66631dea6adbe459471852a6d3268c515b04d58f332c"), looks := false }, kinds := [], alts := [], laidByText := true, laidKinds := [.sentinel], laidTests := true, laidLooks := .later }
def FnAnyShareAcknowledgeRequestCardSaid : Prop := Claim7.holds Tryd.pinned (.plain (OpenSpec.ofChange fnAnyShareAcknowledgeRequestSpec)) fnAnyShareAcknowledgeRequestCard

/-- THE SECOND FORM's CARD OF 'laws.FnAnyShareAcknowledgeRequest'. -/
def fnAnyShareAcknowledgeRequestUptoCard : Claim7 := { stood := { row := fnAnyShareAcknowledgeRequestUptoRow, standIns := [], harness := (true, "7b42e500a20df1560d8d66631dea6adbe459471852a6d3268c515b04d58f332c"), looks := false }, kinds := [], alts := [], laidByText := true, laidKinds := [.sentinel], laidTests := true, laidLooks := .later }
def FnAnyShareAcknowledgeRequestUptoCardSaid : Prop := Claim7.holds Tryd.pinned (.plain (OpenSpec.upto fnAnyShareAcknowledgeRequestSpec)) fnAnyShareAcknowledgeRequestUptoCard
end Rows
end Go.Proofs.YtaknanmlhajmcaaDoor
