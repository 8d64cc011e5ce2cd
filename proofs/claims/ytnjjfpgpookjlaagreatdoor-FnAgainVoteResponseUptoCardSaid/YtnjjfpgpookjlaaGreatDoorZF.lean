import Derived.Test.YtnjjfpgpookjlaaGreatDoorRows
import Derived.WalkKit
import Derived.ProofKit
import Derived.ChangeOld
/-
What the proofs of the laws rest on, part ZF.
-/
namespace Go.Proofs.YtnjjfpgpookjlaaGreatDoor.Facts
set_option linter.all false
theorem c0 : laidOutB Tryz.prog = true := by kernel_rfl
theorem c1 : mapsRowed Tryz.prog = true := by kernel_rfl
theorem c6 : Tryz.prog.mayEnter = true := by kernel_rfl
def lifted := Rows.fnCutFetchSnapshotRequestRow.lifted
def make := Rows.fnCutFetchSnapshotRequestRow.make
def plainKeys := Rows.fnCutFetchSnapshotRequestRow.plainKeys
theorem c7 : (lifted == Tryz.prog.liftsFinal) = true := by kernel_rfl
theorem c8 : (Tryz.prog.make == some make) = true := by kernel_rfl
theorem c9 : (plainKeys == Tryz.prog.plainKeys) = true := by kernel_rfl
theorem c10 : Tryz.prog.stopsHeard = true := by kernel_rfl
end Go.Proofs.YtnjjfpgpookjlaaGreatDoor.Facts
