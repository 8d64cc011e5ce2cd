/-
  DERIVED. GIVEN WITH THE SEED: THE CARDS: each row of YtkodgaelpllhgabGreatDoorRRows.lean that lists a variable, with what it lists TIED to the program's text (the seventh form; the later family's looks); each row that meets fmt, with fmt's text TOLD by the authors' own Lean function (tested against real Go, not proved from fmt's source: count such statements apart). THE CARD IS WHAT COUNTS. Prove the row's statement (the work); the ties are given (YtkodgaelpllhgabGreatDoorRTie.lean); close each card by the builder's one call (the guide's Derived/Test/ToyasCard.lean, 'card_holds'). Laid BY PROGRAM, IN A SANDBOX (cutbox-door.mjs). By AI agents, Wed Nov 11 2026. No macro, syntax, notation, axiom, sorry.
-/
import Derived.Test.YtkodgaelpllhgabGreatDoorRRows
import GoSem.ClaimSeven
namespace Go.Proofs.YtkodgaelpllhgabGreatDoorR
namespace Rows

/-- THE TIED CARD OF 'laws.FnAgainDescribeTopicPartitionsResponse'. -/
def fnAgainDescribeTopicPartitionsResponseCard : Claim7 := { stood := { row := fnAgainDescribeTopicPartitionsResponseRow, standIns := [], harness := (true, "e3d187ee2f839f8d8677b2b05588682bd2450774d0542bdc75c4c0efddcf0c52"), looks := false }, kinds := [], alts := [], laidByText := true, laidKinds := [.sentinel], laidTests := true, laidLooks := .later }
def FnAgainDescribeTopicPartitionsResponseCardSaid : Prop := Claim7.holds Tryz.pinned (.plain (OpenSpec.ofChange fnAgainDescribeTopicPartitionsResponseSpec)) fnAgainDescribeTopicPartitionsResponseCard

/-- THE TIED CARD OF 'laws.FnAgainShareGroupDescribeResponse'. -/
def fnAgainShareGroupDescribeResponseCard : Claim7 := { stood := { row := fnAgainShareGroupDescribeResponseRow, standIns := [], harness := (true, "e3d187ee2f839f8d8677b2b05588682bd2450774d0542bdc75c4c0efddcf0c52"), looks := false }, kinds := [], alts := [], laidByText := true, laidKinds := [.sentinel], laidTests := true, laidLooks := .later }
def FnAgainShareGroupDescribeResponseCardSaid : Prop := Claim7.holds Tryz.pinned (.plain (OpenSpec.ofChange fnAgainShareGroupDescribeResponseSpec)) fnAgainShareGroupDescribeResponseCard

/-- THE SECOND FORM's CARD OF 'laws.FnAgainDescribeTopicPartitionsResponse'. -/
def fnAgainDescribeTopicPartitionsResponseUptoCard : Claim7 := { stood := { row := fnAgainDescribeTopicPartitionsResponseUptoRow, standIns := [], harness := (true, "e3d187ee2f839f8d8677b2b05588682bd2450774d0542bdc75c4c0efddcf0c52"), looks := false }, kinds := [], alts := [], laidByText := true, laidKinds := [.sentinel], laidTests := true, laidLooks := .later }
def FnAgainDescribeTopicPartitionsResponseUptoCardSaid : Prop := Claim7.holds Tryz.pinned (.plain (OpenSpec.upto fnAgainDescribeTopicPartitionsResponseSpec)) fnAgainDescribeTopicPartitionsResponseUptoCard

/-- THE SECOND FORM's CARD OF 'laws.FnAgainShareGroupDescribeResponse'. -/
def fnAgainShareGroupDescribeResponseUptoCard : Claim7 := { stood := { row := fnAgainShareGroupDescribeResponseUptoRow, standIns := [], harness := (true, "e3d187ee2f839f8d8677b2b05588682bd2450774d0542bdc75c4c0efddcf0c52"), looks := false }, kinds := [], alts := [], laidByText := true, laidKinds := [.sentinel], laidTests := true, laidLooks := .later }
def FnAgainShareGroupDescribeResponseUptoCardSaid : Prop := Claim7.holds Tryz.pinned (.plain (OpenSpec.upto fnAgainShareGroupDescribeResponseSpec)) fnAgainShareGroupDescribeResponseUptoCard
end Rows
end Go.Proofs.YtkodgaelpllhgabGreatDoorR
