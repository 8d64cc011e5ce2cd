import Derived.Test.YtbbocmkcciemdaaRows
import Derived.WalkKit
import Derived.ProofKit
import Derived.ChangeOld
/-
What the proofs of the laws rest on, part ZF.
-/
namespace Go.Proofs.Ytbbocmkcciemdaa.Facts
set_option linter.all false
theorem c0 : laidOutB Try.prog = true := by kernel_rfl
theorem c1 : mapsRowed Try.prog = true := by kernel_rfl
theorem c6 : Try.prog.mayEnter = true := by kernel_rfl
def lifted := Rows.fnTagsBackRow.lifted
def make := Rows.fnTagsBackRow.make
def plainKeys := Rows.fnTagsBackRow.plainKeys
theorem c7 : (lifted == Try.prog.liftsFinal) = true := by kernel_rfl
theorem c8 : (Try.prog.make == some make) = true := by kernel_rfl
theorem c9 : (plainKeys == Try.prog.plainKeys) = true := by kernel_rfl
theorem c10 : Try.prog.stopsHeard = true := by kernel_rfl
end Go.Proofs.Ytbbocmkcciemdaa.Facts
