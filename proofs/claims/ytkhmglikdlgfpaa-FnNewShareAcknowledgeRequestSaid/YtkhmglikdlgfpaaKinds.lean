import Derived.Test.YtkhmglikdlgfpaaOps
import Derived.Test.YtkhmglikdlgfpaaProg
/-
The kinds of this translation's types of whole numbers.
-/
namespace Go.Proofs.Ytkhmglikdlgfpaa
set_option linter.all false
theorem k_uint8 : kindOf Try.prog 5 = .u8 := by kernel_rfl
theorem k_uint16 : kindOf Try.prog 174 = .u16 := by kernel_rfl
theorem k_uint32 : kindOf Try.prog 82 = .u32 := by kernel_rfl
theorem k_uint64 : kindOf Try.prog 89 = .u64 := by kernel_rfl
theorem k_int8 : kindOf Try.prog 123 = .i8 := by kernel_rfl
theorem k_int16 : kindOf Try.prog 38 = .i16 := by kernel_rfl
theorem k_int32 : kindOf Try.prog 21 = .i32 := by kernel_rfl
theorem k_int64 : kindOf Try.prog 2 = .i64 := by kernel_rfl
theorem k_int : kindOf Try.prog 3 = .i64 := by kernel_rfl
theorem kb : kindOf Try.prog 5 = .u8 ∧ kindOf Try.prog 174 = .u16 ∧ kindOf Try.prog 82 = .u32 ∧ kindOf Try.prog 89 = .u64 ∧ kindOf Try.prog 123 = .i8 ∧ kindOf Try.prog 38 = .i16 ∧ kindOf Try.prog 21 = .i32 ∧ kindOf Try.prog 2 = .i64 ∧ kindOf Try.prog 3 = .i64 := ⟨by kernel_rfl, by kernel_rfl, by kernel_rfl, by kernel_rfl, by kernel_rfl, by kernel_rfl, by kernel_rfl, by kernel_rfl, by kernel_rfl⟩
end Go.Proofs.Ytkhmglikdlgfpaa
