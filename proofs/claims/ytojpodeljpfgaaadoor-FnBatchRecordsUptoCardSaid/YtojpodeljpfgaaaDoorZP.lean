import Derived.Test.YtojpodeljpfgaaaDoorZN
import Derived.Test.YtojpodeljpfgaaaDoorZB
import Derived.Test.YtojpodeljpfgaaaDoorCards
import Derived.Test.YtojpodeljpfgaaaDoorTie
import Derived.WalkKit
import Derived.ProofKit
import Derived.OpenShut
import Derived.Deep.DeepHandedRow
import Derived.Lib.LaidTab
import Derived.LaidHandle
import Derived.MakeChecks
import Derived.Carry
import Derived.Below
import Derived.Deep.DeepWitnessRowRef
/-
What the proofs of the laws rest on, part ZP.
-/
namespace Go.Proofs.YtojpodeljpfgaaaDoor
set_option linter.all false
open Go.ChangeShapes Go.WideShapes Go.ChangeAt Go.RowKit
set_option maxRecDepth 100000
noncomputable def laidWorld (os : Os) : World :=
  let h := World.holding Tryd.prog os ⟨#[], #[], []⟩
  { h with heap := (h.heap.modify gE fun
      | .cells _ t frozen => .cells #[.iface 120 (.pointer (some ⟨h.heap.size, 0, none⟩))] t frozen
      | o => o).push (.cells #[.string ⟨#[114, 101, 115, 112, 111, 110, 115, 101, 32, 100, 105, 100, 32, 110, 111, 116, 32, 99, 111, 110, 116, 97, 105, 110, 32, 101, 110, 111, 117, 103, 104, 32, 100, 97, 116, 97, 32, 116, 111, 32, 98, 101, 32, 118, 97, 108, 105, 100]⟩] 136) }
theorem below_of {w w' : World} (h : Chg (fun _ => False) w w') : Below w.heap.size w w' := (h.mono fun _ _ h => h.elim : Chg (fun k => w.heap.size ≤ k) w w').below (Nat.le_refl _)
theorem laidOut : laidOutB Tryd.prog = true := by kernel_rfl
theorem own : ownKnob Tryd.prog.godebug = none := by kernel_rfl
end Go.Proofs.YtojpodeljpfgaaaDoor
