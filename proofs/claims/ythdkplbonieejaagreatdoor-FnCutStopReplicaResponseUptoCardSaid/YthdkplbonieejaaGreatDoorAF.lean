import Derived.Test.YthdkplbonieejaaGreatDoorRows
import Derived.WalkKit
import Derived.ProofKit
import Derived.ChangeOld
/-
What the proofs of the laws rest on, part AF.
-/
namespace Go.Proofs.YthdkplbonieejaaGreatDoor.Facts
set_option linter.all false
theorem c0 : laidOutB Tryz.prog = true := by kernel_rfl
theorem c1 : mapsRowed Tryz.prog = true := by kernel_rfl
theorem c6 : Tryz.prog.mayEnter = true := by kernel_rfl
def lifted := Rows.fnCutStopReplicaResponseRow.lifted
def make := Rows.fnCutStopReplicaResponseRow.make
def plainKeys := Rows.fnCutStopReplicaResponseRow.plainKeys
theorem c7 : (lifted == Tryz.prog.liftsFinal) = true := by kernel_rfl
theorem c8 : (Tryz.prog.make == some make) = true := by kernel_rfl
theorem c9 : (plainKeys == Tryz.prog.plainKeys) = true := by kernel_rfl
theorem c10 : Tryz.prog.stopsHeard = true := by kernel_rfl
end Go.Proofs.YthdkplbonieejaaGreatDoor.Facts
