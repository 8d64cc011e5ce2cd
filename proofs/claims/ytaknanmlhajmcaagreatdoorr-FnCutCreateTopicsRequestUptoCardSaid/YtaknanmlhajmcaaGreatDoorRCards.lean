/-
  DERIVED. GIVEN WITH THE SEED: THE CARDS: each row of YtaknanmlhajmcaaGreatDoorRRows.lean that lists a variable, with what it lists TIED to the program's text (the seventh form; the later family's looks); each row that meets fmt, with fmt's text TOLD by the authors' own Lean function (tested against real Go, not proved from fmt's source: count such statements apart). THE CARD IS WHAT COUNTS. Prove the row's statement (the work); the ties are given (YtaknanmlhajmcaaGreatDoorRTie.lean); close each card by the builder's one call (the guide's Derived/Test/ToyasCard.lean, 'card_holds'). Laid BY PROGRAM, IN A SANDBOX (cutbox-door.mjs). By AI agents, Wed Nov 11 2026. No macro, syntax, notation, axiom, sorry.
-/
import Derived.Test.YtaknanmlhajmcaaGreatDoorRRows
import GoSem.ClaimSeven
namespace Go.Proofs.YtaknanmlhajmcaaGreatDoorR
namespace Rows

/-- THE TIED CARD OF 'laws.FnAgainDescribeDelegationTokenRequest'. -/
def fnAgainDescribeDelegationTokenRequestCard : Claim7 := { stood := { row := fnAgainDescribeDelegationTokenRequestRow, standIns := [], harness := (true, "b64846dcfdf1ea2e72ae97b1ec675bb6a647cf6cf2ce5681aefd7f9dfaefac8b"), looks := false }, kinds := [], alts := [], laidByText := true, laidKinds := [.sentinel], laidTests := true, laidLooks := .later }
def FnAgainDescribeDelegationTokenRequestCardSaid : Prop := Claim7.holds Tryz.pinned (.plain (OpenSpec.ofChange fnAgainDescribeDelegationTokenRequestSpec)) fnAgainDescribeDelegationTokenRequestCard

/-- THE TIED CARD OF 'laws.FnCutDescribeLogDirsRequest'. -/
def fnCutDescribeLogDirsRequestCard : Claim7 := { stood := { row := fnCutDescribeLogDirsRequestRow, standIns := [], harness := (true, "b64846dcfdf1ea2e72ae97b1ec675bb6a647cf6cf2ce5681aefd7f9dfaefac8b"), looks := false }, kinds := [], alts := [], laidByText := true, laidKinds := [.sentinel], laidTests := true, laidLooks := .later }
def FnCutDescribeLogDirsRequestCardSaid : Prop := Claim7.holds Tryz.pinned (.plain (OpenSpec.ofChange fnCutDescribeLogDirsRequestSpec)) fnCutDescribeLogDirsRequestCard

/-- THE TIED CARD OF 'laws.FnCutListPartitionReassignmentsRequest'. -/
def fnCutListPartitionReassignmentsRequestCard : Claim7 := { stood := { row := fnCutListPartitionReassignmentsRequestRow, standIns := [], harness := (true, "b64846dcfdf1ea2e72ae97b1ec675bb6a647cf6cf2ce5681aefd7f9dfaefac8b"), looks := false }, kinds := [], alts := [], laidByText := true, laidKinds := [.sentinel], laidTests := true, laidLooks := .later }
def FnCutListPartitionReassignmentsRequestCardSaid : Prop := Claim7.holds Tryz.pinned (.plain (OpenSpec.ofChange fnCutListPartitionReassignmentsRequestSpec)) fnCutListPartitionReassignmentsRequestCard

/-- THE TIED CARD OF 'laws.FnCutCreateTopicsRequest'. -/
def fnCutCreateTopicsRequestCard : Claim7 := { stood := { row := fnCutCreateTopicsRequestRow, standIns := [], harness := (true, "b64846dcfdf1ea2e72ae97b1ec675bb6a647cf6cf2ce5681aefd7f9dfaefac8b"), looks := false }, kinds := [], alts := [], laidByText := true, laidKinds := [.sentinel], laidTests := true, laidLooks := .later }
def FnCutCreateTopicsRequestCardSaid : Prop := Claim7.holds Tryz.pinned (.plain (OpenSpec.ofChange fnCutCreateTopicsRequestSpec)) fnCutCreateTopicsRequestCard

/-- THE SECOND FORM's CARD OF 'laws.FnAgainDescribeDelegationTokenRequest'. -/
def fnAgainDescribeDelegationTokenRequestUptoCard : Claim7 := { stood := { row := fnAgainDescribeDelegationTokenRequestUptoRow, standIns := [], harness := (true, "b64846dcfdf1ea2e72ae97b1ec675bb6a647cf6cf2ce5681aefd7f9dfaefac8b"), looks := false }, kinds := [], alts := [], laidByText := true, laidKinds := [.sentinel], laidTests := true, laidLooks := .later }
def FnAgainDescribeDelegationTokenRequestUptoCardSaid : Prop := Claim7.holds Tryz.pinned (.plain (OpenSpec.upto fnAgainDescribeDelegationTokenRequestSpec)) fnAgainDescribeDelegationTokenRequestUptoCard

/-- THE SECOND FORM's CARD OF 'laws.FnCutDescribeLogDirsRequest'. -/
def fnCutDescribeLogDirsRequestUptoCard : Claim7 := { stood := { row := fnCutDescribeLogDirsRequestUptoRow, standIns := [], harness := (true, "b64846dcfdf1ea2e72ae97b1ec675bb6a647cf6cf2ce5681aefd7f9dfaefac8b"), looks := false }, kinds := [], alts := [], laidByText := true, laidKinds := [.sentinel], laidTests := true, laidLooks := .later }
def FnCutDescribeLogDirsRequestUptoCardSaid : Prop := Claim7.holds Tryz.pinned (.plain (OpenSpec.upto fnCutDescribeLogDirsRequestSpec)) fnCutDescribeLogDirsRequestUptoCard

/-- THE SECOND FORM's CARD OF 'laws.FnCutListPartitionReassignmentsRequest'. -/
def fnCutListPartitionReassignmentsRequestUptoCard : Claim7 := { stood := { row := fnCutListPartitionReassignmentsRequestUptoRow, standIns := [], harness := (true, "b64846dcfdf1ea2e72ae97b1ec675bb6a647cf6cf2ce5681aefd7f9dfaefac8b"), looks := false }, kinds := [], alts := [], laidByText := true, laidKinds := [.sentinel], laidTests := true, laidLooks := .later }
def FnCutListPartitionReassignmentsRequestUptoCardSaid : Prop := Claim7.holds Tryz.pinned (.plain (OpenSpec.upto fnCutListPartitionReassignmentsRequestSpec)) fnCutListPartitionReassignmentsRequestUptoCard

/-- THE SECOND FORM's CARD OF 'laws.FnCutCreateTopicsRequest'. -/
def fnCutCreateTopicsRequestUptoCard : Claim7 := { stood := { row := fnCutCreateTopicsRequestUptoRow, standIns := [], harness := (true, "b64846dcfdf1ea2e72ae97b1ec675bb6a647cf6cf2ce5681aefd7f9dfaefac8b"), looks := false }, kinds := [], alts := [], laidByText := true, laidKinds := [.sentinel], laidTests := true, laidLooks := .later }
def FnCutCreateTopicsRequestUptoCardSaid : Prop := Claim7.holds Tryz.pinned (.plain (OpenSpec.upto fnCutCreateTopicsRequestSpec)) fnCutCreateTopicsRequestUptoCard
end Rows
end Go.Proofs.YtaknanmlhajmcaaGreatDoorR
