import Derived.Test.YtjkdpaefamnhhaaGreatDoorRows
import Derived.WalkKit
import Derived.ProofKit
import Derived.ChangeOld
/-
What the proofs of the laws rest on, part ZF.
-/
namespace Go.Proofs.YtjkdpaefamnhhaaGreatDoor.Facts
set_option linter.all false
theorem c0 : laidOutB Tryz.prog = true := by kernel_rfl
theorem c1 : mapsRowed Tryz.prog = true := by kernel_rfl
theorem c6 : Tryz.prog.mayEnter = true := by kernel_rfl
def lifted := Rows.fnCutWriteTxnMarkersResponseRow.lifted
def make := Rows.fnCutWriteTxnMarkersResponseRow.make
def plainKeys := Rows.fnCutWriteTxnMarkersResponseRow.plainKeys
theorem c7 : (lifted == Tryz.prog.liftsFinal) = true := by kernel_rfl
theorem c8 : (Tryz.prog.make == some make) = true := by kernel_rfl
theorem c9 : (plainKeys == Tryz.prog.plainKeys) = true := by kernel_rfl
theorem c10 : Tryz.prog.stopsHeard = true := by kernel_rfl
end Go.Proofs.YtjkdpaefamnhhaaGreatDoor.Facts
