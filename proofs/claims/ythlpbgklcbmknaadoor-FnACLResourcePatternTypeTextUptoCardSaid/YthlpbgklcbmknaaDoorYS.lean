import Derived.Test.YthlpbgklcbmknaaDoorYA
import Derived.Deep.AppendLies
/-
What the proofs of the laws rest on, part YS.
-/
namespace Go.Proofs.YthlpbgklcbmknaaDoor
set_option linter.all false
open Go.RowKit
set_option maxRecDepth 10000
section
variable {P : Program} {ops : Array Oper} {Q : Exit → Act → World → Prop} {a : Act} {w : World} {rest : List Oper} {d : Option Nat} {ty : TypeId} {pos : String} {af : Array Edge}
end
end Go.Proofs.YthlpbgklcbmknaaDoor
