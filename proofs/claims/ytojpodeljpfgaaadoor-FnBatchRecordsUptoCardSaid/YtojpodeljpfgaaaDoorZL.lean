import Derived.Test.YtojpodeljpfgaaaDoorZA
/-
What the proofs of the laws rest on, part ZL.
-/
namespace Go.Proofs.YtojpodeljpfgaaaDoor
set_option linter.all false
theorem be_len : ∀ (k : Nat) (n : Int), (be k n).length = k
  | 0, _ => rfl
  | k + 1, n => by simp [be, be_len k n]
theorem pow256 (k : Nat) : (0 : Int) < 256 ^ k := Int.pow_pos (by decide)
theorem byte_toNat (n : Int) : ((byte n).toNat : Int) = n % 256 := by
  unfold byte
  have h1 : 0 ≤ n % 256 := by omega
  have h2 : n % 256 < 256 := by omega
  simp only [UInt8.toNat_ofNat']
  omega
theorem emod_mul256 (n P : Int) (hp : 0 < P) : n / P % 256 * P + n % P = n % (P * 256) := by
  have h1 := Int.mul_ediv_add_emod n P
  have h2 := Int.mul_ediv_add_emod (n / P) 256
  have h3 := Int.emod_nonneg n (show P ≠ 0 by omega)
  have h4 := Int.emod_lt_of_pos n hp
  have h5 : 0 ≤ n / P % 256 := by omega
  have h6 : n / P % 256 ≤ 255 := by omega
  generalize n / P % 256 = x at *
  generalize n % P = y at *
  generalize n / P / 256 = q at *
  have e : n = P * 256 * q + (P * x + y) := by
    rw [← h1, ← h2, Int.mul_add, Int.mul_assoc]; omega
  have hx : P * x ≤ P * 255 := Int.mul_le_mul_of_nonneg_left h6 (Int.le_of_lt hp)
  have hx0 : 0 ≤ P * x := Int.mul_nonneg (Int.le_of_lt hp) h5
  rw [e, Int.mul_add_emod_self_left, Int.emod_eq_of_lt (by omega) (by omega), Int.mul_comm x P]
theorem unbe_be : ∀ (k : Nat) (n : Int), ((unbe (be k n) : Nat) : Int) = n % 256 ^ k
  | 0, n => by simp [be, unbe]
  | k + 1, n => by
    have ih := unbe_be k n
    simp only [be, unbe, be_len]
    rw [Int.natCast_add, Int.natCast_mul, byte_toNat, ih, Int.natCast_pow]
    have e : (256 : Int) ^ (k + 1) = 256 ^ k * 256 := Int.pow_succ ..
    rw [e]
    exact emod_mul256 n (256 ^ k) (pow256 k)
theorem take?_app {k : Nat} {l r : Bs} (h : l.length = k) : take? k (l ++ r) = some (l, r) := by
  unfold take?
  rw [if_pos (by simp; omega), List.take_left' h, List.drop_left' h]
theorem sgn_of (k : Nat) (n : Int) (h0 : -(256 ^ k) ≤ 2 * n) (h1 : 2 * n < 256 ^ k) (m : Nat) (hm : (m : Int) = n % 256 ^ k) : sgn k m = n := by
  have hp := pow256 k
  unfold sgn
  rw [hm]
  by_cases hn : 0 ≤ n
  · rw [Int.emod_eq_of_lt hn (by omega), if_pos h1]
  · have e : n % 256 ^ k = n + 256 ^ k := by
      rw [← Int.add_emod_right, Int.emod_eq_of_lt (by omega) (by omega)]
    rw [e, if_neg (by omega)]; omega
theorem rS_be (k : Nat) (n : Int) (r : Bs) (h0 : -(256 ^ k) ≤ 2 * n) (h1 : 2 * n < 256 ^ k) : rS k (be k n ++ r) = some (n, r) := by
  unfold rS
  rw [take?_app (be_len k n)]
  simp only [Option.map_some, Option.some.injEq, Prod.mk.injEq, and_true]
  exact sgn_of k n h0 h1 _ (unbe_be k n)
theorem u8_lt {n : Nat} (h : n < 256) : (UInt8.ofNat n).toNat = n := by simp only [UInt8.toNat_ofNat']; omega
theorem rUvar_uvar (n : Nat) (h : n < 4294967296) (r : Bs) : rUvar (uvar n ++ r) = some (n, r) := by
  have h2 : ∀ m : Nat, m % 128 + 128 < 256 := by omega
  unfold uvar
  rw [zat]
  by_cases h0 : n < 128
  · rw [if_pos h0]
    simp only [List.cons_append, List.nil_append, rUvar, u8_lt (by omega : n < 256)]
    rw [if_pos h0]
  rw [if_neg h0, zat]
  by_cases h1 : n / 128 < 128
  · rw [if_pos h1]
    simp only [List.cons_append, List.nil_append, rUvar, u8_lt (h2 n), u8_lt (by omega : n / 128 < 256)]
    rw [if_neg (by omega), if_pos h1]
    simp only [Option.some.injEq, Prod.mk.injEq, and_true]; omega
  rw [if_neg h1, zat]
  by_cases h3 : n / 128 / 128 < 128
  · rw [if_pos h3]
    simp only [List.cons_append, List.nil_append, rUvar, u8_lt (h2 n), u8_lt (h2 (n / 128)), u8_lt (by omega : n / 128 / 128 < 256)]
    rw [if_neg (by omega), if_neg (by omega), if_pos h3]
    simp only [Option.some.injEq, Prod.mk.injEq, and_true]; omega
  rw [if_neg h3, zat]
  by_cases h4 : n / 128 / 128 / 128 < 128
  · rw [if_pos h4]
    simp only [List.cons_append, List.nil_append, rUvar, u8_lt (h2 n), u8_lt (h2 (n / 128)), u8_lt (h2 (n / 128 / 128)), u8_lt (by omega : n / 128 / 128 / 128 < 256)]
    rw [if_neg (by omega), if_neg (by omega), if_neg (by omega), if_pos h4]
    simp only [Option.some.injEq, Prod.mk.injEq, and_true]; omega
  rw [if_neg h4, zat]
  simp only [List.cons_append, List.nil_append, rUvar, u8_lt (h2 n), u8_lt (h2 (n / 128)), u8_lt (h2 (n / 128 / 128)), u8_lt (h2 (n / 128 / 128 / 128)), u8_lt (by omega : n / 128 / 128 / 128 / 128 < 256)]
  rw [if_neg (by omega), if_neg (by omega), if_neg (by omega), if_neg (by omega), if_pos (by omega)]
  simp only [Option.some.injEq, Prod.mk.injEq, and_true]; omega
theorem rSpan_app (l r : Bs) : rSpan (l.length : Int) (l ++ r) = some (l, r) := by
  unfold rSpan
  rw [if_pos (by omega), Int.toNat_natCast, take?_app rfl]
end Go.Proofs.YtojpodeljpfgaaaDoor
