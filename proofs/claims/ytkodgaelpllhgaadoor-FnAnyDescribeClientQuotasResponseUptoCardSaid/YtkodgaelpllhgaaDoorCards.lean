/-
  DERIVED. GIVEN WITH THE SEED: THE CARDS: each row of YtkodgaelpllhgaaDoorRows.lean that lists a variable, with what it lists TIED to the program's text (the seventh form; the later family's looks); each row that meets fmt, with fmt's text TOLD by the authors' own Lean function (tested against real Go, not proved from fmt's source: count such statements apart). THE CARD IS WHAT COUNTS. Prove the row's statement (the work); the ties are given (YtkodgaelpllhgaaDoorTie.lean); close each card by the builder's one call (the guide's Derived/Test/ToyasCard.lean, 'card_holds'). Laid BY PROGRAM, IN A SANDBOX (cutbox-door.mjs). By AI agents, Wed Nov 11 2026. No macro, syntax, notation, axiom, sorry.
-/
import Derived.Test.YtkodgaelpllhgaaDoorRows
import GoSem.ClaimSeven
namespace Go.Proofs.YtkodgaelpllhgaaDoor
namespace Rows

/-- THE TIED CARD OF 'laws.FnAnyMetadataRequest'. -/
def fnAnyMetadataRequestCard : Claim7 := { stood := { row := fnAnyMetadataRequestRow, standIns := [], harness := (true, "ec707d6fcfefadb62629142ff01fc03a2cccbcf536a171419ef4bf2db436b9bd"), looks := false }, kinds := [], alts := [], laidByText := true, laidKinds := [.sentinel], laidTests := true, laidLooks := .later }
def FnAnyMetadataRequestCardSaid : Prop := Claim7.holds Tryd.pinned (.plain (OpenSpec.ofChange fnAnyMetadataRequestSpec)) fnAnyMetadataRequestCard

/-- THE TIED CARD OF 'laws.FnAnyDescribeClientQuotasResponse'. -/
def fnAnyDescribeClientQuotasResponseCard : Claim7 := { stood := { row := fnAnyDescribeClientQuotasResponseRow, standIns := [], harness := (true, "ec707d6fcfefadb62629142ff01fc03a2cccbcf536a171419ef4bf2db436b9bd"), looks := false }, kinds := [], alts := [], laidByText := true, laidKinds := [.sentinel], laidTests := true, laidLooks := .later }
def FnAnyDescribeClientQuotasResponseCardSaid : Prop := Claim7.holds Tryd.pinned (.plain (OpenSpec.ofChange fnAnyDescribeClientQuotasResponseSpec)) fnAnyDescribeClientQuotasResponseCard

/-- THE SECOND FORM's CARD OF 'laws.FnAnyMetadataRequest'. -/
def fnAnyMetadataRequestUptoCard : Claim7 := { stood := { row := fnAnyMetadataRequestUptoRow, standIns := [], harness := (true, "ec707d6fcfefadb62629142ff01fc03a2cccbcf536a171419ef4bf2db436b9bd"), looks := false }, kinds := [], alts := [], laidByText := true, laidKinds := [.sentinel], laidTests := true, laidLooks := .later }
def FnAnyMetadataRequestUptoCardSaid : Prop := Claim7.holds Tryd.pinned (.plain (OpenSpec.upto fnAnyMetadataRequestSpec)) fnAnyMetadataRequestUptoCard

/-- THE SECOND FORM's CARD OF 'laws.FnAnyDescribeClientQuotasResponse'. -/
def fnAnyDescribeClientQuotasResponseUptoCard : Claim7 := { stood := { row := fnAnyDescribeClientQuotasResponseUptoRow, standIns := [], harness := (true, "ec707d6fcfefadb62629142ff01fc03a2cccbcf536a171419ef4bf2db436b9bd"), looks := false }, kinds := [], alts := [], laidByText := true, laidKinds := [.sentinel], laidTests := true, laidLooks := .later }
def FnAnyDescribeClientQuotasResponseUptoCardSaid : Prop := Claim7.holds Tryd.pinned (.plain (OpenSpec.upto fnAnyDescribeClientQuotasResponseSpec)) fnAnyDescribeClientQuotasResponseUptoCard
end Rows
end Go.Proofs.YtkodgaelpllhgaaDoor
