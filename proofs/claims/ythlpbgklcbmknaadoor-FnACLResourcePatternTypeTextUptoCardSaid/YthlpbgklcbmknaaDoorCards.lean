/-
  DERIVED. GIVEN WITH THE SEED: THE CARDS: each row of YthlpbgklcbmknaaDoorRows.lean that lists a variable, with what it lists TIED to the program's text (the seventh form; the later family's looks); each row that meets fmt, with fmt's text TOLD by the authors' own Lean function (tested against real Go, not proved from fmt's source: count such statements apart). THE CARD IS WHAT COUNTS. Prove the row's statement (the work); the ties are given (YthlpbgklcbmknaaDoorTie.lean); close each card by the builder's one call (the guide's Derived/Test/ToyasCard.lean, 'card_holds'). Laid BY PROGRAM, IN A SANDBOX (cutbox-door.mjs). By AI agents, Wed Nov 11 2026. No macro, syntax, notation, axiom, sorry.
-/
import Derived.Test.YthlpbgklcbmknaaDoorRows
import GoSem.ClaimSeven
namespace Go.Proofs.YthlpbgklcbmknaaDoor
namespace Rows

/-- THE TIED CARD OF 'laws.FnParseConfigSource'. -/
def fnParseConfigSourceCard : Claim7 := { stood := { row := fnParseConfigSourceRow, standIns := [], harness := (true, "fe11020b9d377cdf0616c824dc8ac7e88985688c0ce426da840a42e21ca84831"), looks := false }, kinds := [], alts := [], laidByText := true, laidKinds := [.data, .listed, .data, .pinned, .pinned], laidTests := true, laidLooks := .later }
def FnParseConfigSourceCardSaid : Prop := Claim7.holds Tryd.pinned (.plain (OpenSpec.ofChange fnParseConfigSourceSpec)) fnParseConfigSourceCard

/-- THE TIED CARD OF 'laws.FnACLResourcePatternTypeText'. -/
def fnACLResourcePatternTypeTextCard : Claim7 := { stood := { row := fnACLResourcePatternTypeTextRow, standIns := [], harness := (true, "fe11020b9d377cdf0616c824dc8ac7e88985688c0ce426da840a42e21ca84831"), looks := false }, kinds := [], alts := [], laidByText := true, laidKinds := [.data, .listed, .data, .pinned, .pinned], laidTests := true, laidLooks := .later }
def FnACLResourcePatternTypeTextCardSaid : Prop := Claim7.holds Tryd.pinned (.plain (OpenSpec.ofChange fnACLResourcePatternTypeTextSpec)) fnACLResourcePatternTypeTextCard

/-- THE SECOND FORM's CARD OF 'laws.FnParseConfigSource'. -/
def fnParseConfigSourceUptoCard : Claim7 := { stood := { row := fnParseConfigSourceUptoRow, standIns := [], harness := (true, "fe11020b9d377cdf0616c824dc8ac7e88985688c0ce426da840a42e21ca84831"), looks := false }, kinds := [], alts := [], laidByText := true, laidKinds := [.data, .listed, .data, .pinned, .pinned], laidTests := true, laidLooks := .later }
def FnParseConfigSourceUptoCardSaid : Prop := Claim7.holds Tryd.pinned (.plain (OpenSpec.upto fnParseConfigSourceSpec)) fnParseConfigSourceUptoCard

/-- THE SECOND FORM's CARD OF 'laws.FnACLResourcePatternTypeText'. -/
def fnACLResourcePatternTypeTextUptoCard : Claim7 := { stood := { row := fnACLResourcePatternTypeTextUptoRow, standIns := [], harness := (true, "fe11020b9d377cdf0616c824dc8ac7e88985688c0ce426da840a42e21ca84831"), looks := false }, kinds := [], alts := [], laidByText := true, laidKinds := [.data, .listed, .data, .pinned, .pinned], laidTests := true, laidLooks := .later }
def FnACLResourcePatternTypeTextUptoCardSaid : Prop := Claim7.holds Tryd.pinned (.plain (OpenSpec.upto fnACLResourcePatternTypeTextSpec)) fnACLResourcePatternTypeTextUptoCard
end Rows
end Go.Proofs.YthlpbgklcbmknaaDoor
