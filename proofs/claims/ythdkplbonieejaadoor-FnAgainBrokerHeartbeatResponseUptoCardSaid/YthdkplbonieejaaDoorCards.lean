/-
  DERIVED. GIVEN WITH THE SEED: THE CARDS: each row of YthdkplbonieejaaDoorRows.lean that lists a variable, with what it lists TIED to the program's text (the seventh form; the later family's looks); each row that meets fmt, with fmt's text TOLD by the authors' own Lean function (tested against real Go, not proved from fmt's source: count such statements apart). THE CARD IS WHAT COUNTS. Prove the row's statement (the work); the ties are given (YthdkplbonieejaaDoorTie.lean); close each card by the builder's one call (the guide's Derived/Test/ToyasCard.lean, 'card_holds'). Laid BY PROGRAM, IN A SANDBOX (cutbox-door.mjs). By AI agents, Wed Nov 11 2026. No macro, syntax, notation, axiom, sorry.
-/
import Derived.Test.YthdkplbonieejaaDoorRows
import GoSem.ClaimSeven
namespace Go.Proofs.YthdkplbonieejaaDoor
namespace Rows

/-- THE TIED CARD OF 'laws.FnCutUnregisterControllerRequest'. -/
def fnCutUnregisterControllerRequestCard : Claim7 := { stood := { row := fnCutUnregisterControllerRequestRow, standIns := [], harness := (true, "ce763c36185553ada7e4e1ec15cb989362791f42f4cb3bd0b8f412dfbb81b8e4"), looks := false }, kinds := [], alts := [], laidByText := true, laidKinds := [.sentinel], laidTests := true, laidLooks := .later }
def FnCutUnregisterControllerRequestCardSaid : Prop := Claim7.holds Tryd.pinned (.plain (OpenSpec.ofChange fnCutUnregisterControllerRequestSpec)) fnCutUnregisterControllerRequestCard

/-- THE TIED CARD OF 'laws.FnAgainBrokerHeartbeatResponse'. -/
def fnAgainBrokerHeartbeatResponseCard : Claim7 := { stood := { row := fnAgainBrokerHeartbeatResponseRow, standIns := [], harness := (true, "ce763c36185553ada7e4e1ec15cb989362791f42f4cb3bd0b8f412dfbb81b8e4"), looks := false }, kinds := [], alts := [], laidByText := true, laidKinds := [.sentinel], laidTests := true, laidLooks := .later }
def FnAgainBrokerHeartbeatResponseCardSaid : Prop := Claim7.holds Tryd.pinned (.plain (OpenSpec.ofChange fnAgainBrokerHeartbeatResponseSpec)) fnAgainBrokerHeartbeatResponseCard

/-- THE TIED CARD OF 'laws.FnCutAllocateProducerIDsResponse'. -/
def fnCutAllocateProducerIDsResponseCard : Claim7 := { stood := { row := fnCutAllocateProducerIDsResponseRow, standIns := [], harness := (true, "ce763c36185553ada7e4e1ec15cb989362791f42f4cb3bd0b8f412dfbb81b8e4"), looks := false }, kinds := [], alts := [], laidByText := true, laidKinds := [.sentinel], laidTests := true, laidLooks := .later }
def FnCutAllocateProducerIDsResponseCardSaid : Prop := Claim7.holds Tryd.pinned (.plain (OpenSpec.ofChange fnCutAllocateProducerIDsResponseSpec)) fnCutAllocateProducerIDsResponseCard

/-- THE SECOND FORM's CARD OF 'laws.FnCutUnregisterControllerRequest'. -/
def fnCutUnregisterControllerRequestUptoCard : Claim7 := { stood := { row := fnCutUnregisterControllerRequestUptoRow, standIns := [], harness := (true, "ce763c36185553ada7e4e1ec15cb989362791f42f4cb3bd0b8f412dfbb81b8e4"), looks := false }, kinds := [], alts := [], laidByText := true, laidKinds := [.sentinel], laidTests := true, laidLooks := .later }
def FnCutUnregisterControllerRequestUptoCardSaid : Prop := Claim7.holds Tryd.pinned (.plain (OpenSpec.upto fnCutUnregisterControllerRequestSpec)) fnCutUnregisterControllerRequestUptoCard

/-- THE SECOND FORM's CARD OF 'laws.FnAgainBrokerHeartbeatResponse'. -/
def fnAgainBrokerHeartbeatResponseUptoCard : Claim7 := { stood := { row := fnAgainBrokerHeartbeatResponseUptoRow, standIns := [], harness := (true, "ce763c36185553ada7e4e1ec15cb989362791f42f4cb3bd0b8f412dfbb81b8e4"), looks := false }, kinds := [], alts := [], laidByText := true, laidKinds := [.sentinel], laidTests := true, laidLooks := .later }
def FnAgainBrokerHeartbeatResponseUptoCardSaid : Prop := Claim7.holds Tryd.pinned (.plain (OpenSpec.upto fnAgainBrokerHeartbeatResponseSpec)) fnAgainBrokerHeartbeatResponseUptoCard

/-- THE SECOND FORM's CARD OF 'laws.FnCutAllocateProducerIDsResponse'. -/
def fnCutAllocateProducerIDsResponseUptoCard : Claim7 := { stood := { row := fnCutAllocateProducerIDsResponseUptoRow, standIns := [], harness := (true, "ce763c36185553ada7e4e1ec15cb989362791f42f4cb3bd0b8f412dfbb81b8e4"), looks := false }, kinds := [], alts := [], laidByText := true, laidKinds := [.sentinel], laidTests := true, laidLooks := .later }
def FnCutAllocateProducerIDsResponseUptoCardSaid : Prop := Claim7.holds Tryd.pinned (.plain (OpenSpec.upto fnCutAllocateProducerIDsResponseSpec)) fnCutAllocateProducerIDsResponseUptoCard
end Rows
end Go.Proofs.YthdkplbonieejaaDoor
