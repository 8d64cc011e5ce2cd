import Derived.Test.YtgjnllebnkjofaaDoorZK
import Derived.Test.YtgjnllebnkjofaaDoorZA
/-
What the proofs of the laws rest on, part ZT.
-/
namespace Go.Proofs.YtgjnllebnkjofaaDoor
set_option linter.all false
open Go.RowKit
set_option maxRecDepth 10000
end Go.Proofs.YtgjnllebnkjofaaDoor
