import Derived.Test.YtojpodeljpfgaaaDoorRows
import Derived.WalkKit
import Derived.ProofKit
import Derived.ChangeOld
/-
What the proofs of the laws rest on, part ZF.
-/
namespace Go.Proofs.YtojpodeljpfgaaaDoor.Facts
set_option linter.all false
theorem c0 : laidOutB Tryd.prog = true := by kernel_rfl
theorem c1 : mapsRowed Tryd.prog = true := by kernel_rfl
theorem c6 : Tryd.prog.mayEnter = true := by kernel_rfl
def lifted := Rows.fnBatchRecordsRow.lifted
def make := Rows.fnBatchRecordsRow.make
def plainKeys := Rows.fnBatchRecordsRow.plainKeys
theorem c7 : (lifted == Tryd.prog.liftsFinal) = true := by kernel_rfl
theorem c8 : (Tryd.prog.make == some make) = true := by kernel_rfl
theorem c9 : (plainKeys == Tryd.prog.plainKeys) = true := by kernel_rfl
theorem c10 : Tryd.prog.stopsHeard = true := by kernel_rfl
end Go.Proofs.YtojpodeljpfgaaaDoor.Facts
