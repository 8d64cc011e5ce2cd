/-
  DERIVED. GIVEN WITH THE SEED: THE CARDS: each row of YtjkdpaefamnhhaaDoorRows.lean that lists a variable, with what it lists TIED to the program's text (the seventh form; the later family's looks); each row that meets fmt, with fmt's text TOLD by the authors' own Lean function (tested against real Go, not proved from fmt's source: count such statements apart). THE CARD IS WHAT COUNTS. Prove the row's statement (the work); the ties are given (YtjkdpaefamnhhaaDoorTie.lean); close each card by the builder's one call (the guide's Derived/Test/ToyasCard.lean, 'card_holds'). Laid BY PROGRAM, IN A SANDBOX (cutbox-door.mjs). By AI agents, Wed Nov 11 2026. No macro, syntax, notation, axiom, sorry.
-/
import Derived.Test.YtjkdpaefamnhhaaDoorRows
import GoSem.ClaimSeven
namespace Go.Proofs.YtjkdpaefamnhhaaDoor
namespace Rows

/-- THE TIED CARD OF 'laws.FnAnyDeleteGroupsRequest'. -/
def fnAnyDeleteGroupsRequestCard : Claim7 := { stood := { row := fnAnyDeleteGroupsRequestRow, standIns := [], harness := (true, "9df7e52a05c330b9f4464245574de9fa50edde14ce4303db7bf84b8c1ef4ef1a"), looks := false }, kinds := [], alts := [], laidByText := true, laidKinds := [.sentinel], laidTests := true, laidLooks := .later }
def FnAnyDeleteGroupsRequestCardSaid : Prop := Claim7.holds Tryd.pinned (.plain (OpenSpec.ofChange fnAnyDeleteGroupsRequestSpec)) fnAnyDeleteGroupsRequestCard

/-- THE TIED CARD OF 'laws.FnAnyControlledShutdownResponse'. -/
def fnAnyControlledShutdownResponseCard : Claim7 := { stood := { row := fnAnyControlledShutdownResponseRow, standIns := [], harness := (true, "9df7e52a05c330b9f4464245574de9fa50edde14ce4303db7bf84b8c1ef4ef1a"), looks := false }, kinds := [], alts := [], laidByText := true, laidKinds := [.sentinel], laidTests := true, laidLooks := .later }
def FnAnyControlledShutdownResponseCardSaid : Prop := Claim7.holds Tryd.pinned (.plain (OpenSpec.ofChange fnAnyControlledShutdownResponseSpec)) fnAnyControlledShutdownResponseCard

/-- THE TIED CARD OF 'laws.FnAnyDescribeQuorumRequest'. -/
def fnAnyDescribeQuorumRequestCard : Claim7 := { stood := { row := fnAnyDescribeQuorumRequestRow, standIns := [], harness := (true, "9df7e52a05c330b9f4464245574de9fa50edde14ce4303db7bf84b8c1ef4ef1a"), looks := false }, kinds := [], alts := [], laidByText := true, laidKinds := [.sentinel], laidTests := true, laidLooks := .later }
def FnAnyDescribeQuorumRequestCardSaid : Prop := Claim7.holds Tryd.pinned (.plain (OpenSpec.ofChange fnAnyDescribeQuorumRequestSpec)) fnAnyDescribeQuorumRequestCard

/-- THE SECOND FORM's CARD OF 'laws.FnAnyDeleteGroupsRequest'. -/
def fnAnyDeleteGroupsRequestUptoCard : Claim7 := { stood := { row := fnAnyDeleteGroupsRequestUptoRow, standIns := [], harness := (true, "9df7e52a05c330b9f4464245574de9fa50edde14ce4303db7bf84b8c1ef4ef1a"), looks := false }, kinds := [], alts := [], laidByText := true, laidKinds := [.sentinel], laidTests := true, laidLooks := .later }
def FnAnyDeleteGroupsRequestUptoCardSaid : Prop := Claim7.holds Tryd.pinned (.plain (OpenSpec.upto fnAnyDeleteGroupsRequestSpec)) fnAnyDeleteGroupsRequestUptoCard

/-- THE SECOND FORM's CARD OF 'laws.FnAnyControlledShutdownResponse'. -/
def fnAnyControlledShutdownResponseUptoCard : Claim7 := { stood := { row := fnAnyControlledShutdownResponseUptoRow, standIns := [], harness := (true, "9df7e52a05c330b9f4464245574de9fa50edde14ce4303db7bf84b8c1ef4ef1a"), looks := false }, kinds := [], alts := [], laidByText := true, laidKinds := [.sentinel], laidTests := true, laidLooks := .later }
def FnAnyControlledShutdownResponseUptoCardSaid : Prop := Claim7.holds Tryd.pinned (.plain (OpenSpec.upto fnAnyControlledShutdownResponseSpec)) fnAnyControlledShutdownResponseUptoCard

/-- THE SECOND FORM's CARD OF 'laws.FnAnyDescribeQuorumRequest'. -/
def fnAnyDescribeQuorumRequestUptoCard : Claim7 := { stood := { row := fnAnyDescribeQuorumRequestUptoRow, standIns := [], harness := (true, "9df7e52a05c330b9f4464245574de9fa50edde14ce4303db7bf84b8c1ef4ef1a"), looks := false }, kinds := [], alts := [], laidByText := true, laidKinds := [.sentinel], laidTests := true, laidLooks := .later }
def FnAnyDescribeQuorumRequestUptoCardSaid : Prop := Claim7.holds Tryd.pinned (.plain (OpenSpec.upto fnAnyDescribeQuorumRequestSpec)) fnAnyDescribeQuorumRequestUptoCard
end Rows
end Go.Proofs.YtjkdpaefamnhhaaDoor
