/-
Facts of the whole program, each checked by the kernel by itself.
-/
import Derived.Test.YtkhmglikdlgfpaaRows
import Derived.WalkKit
import Derived.ProofKit
import Derived.ChangeOld
namespace Go.Proofs.Ytkhmglikdlgfpaa.Facts
set_option linter.all false
theorem c0 : laidOutB Try.prog = true := by kernel_rfl
theorem c1 : mapsRowed Try.prog = true := by kernel_rfl
theorem c6 : Try.prog.mayEnter = true := by kernel_rfl
def lifted := Rows.fnNewGetTelemetrySubscriptionsRequestRow.lifted
def make := Rows.fnNewGetTelemetrySubscriptionsRequestRow.make
def plainKeys := Rows.fnNewGetTelemetrySubscriptionsRequestRow.plainKeys
theorem c7 : (lifted == Try.prog.liftsFinal) = true := by kernel_rfl
theorem c8 : (Try.prog.make == some make) = true := by kernel_rfl
theorem c9 : (plainKeys == Try.prog.plainKeys) = true := by kernel_rfl
theorem c10 : Try.prog.stopsHeard = true := by kernel_rfl
end Go.Proofs.Ytkhmglikdlgfpaa.Facts
