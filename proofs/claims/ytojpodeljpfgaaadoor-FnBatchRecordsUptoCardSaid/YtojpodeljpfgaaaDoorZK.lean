import Derived.Test.YtojpodeljpfgaaaDoorZA
/-
What the proofs of the laws rest on, part ZK.
-/
namespace Go.Proofs.YtojpodeljpfgaaaDoor
set_option linter.all false
open Go.RowKit Go.Lib
set_option maxRecDepth 10000
def len8 (j : Nat) : Nat := if j = 0 then 0 else Nat.log2 j + 1
def blen (n : Nat) : Nat := if 65536 ≤ n then (if 256 ≤ n / 65536 then 24 + len8 (n / 65536 / 256) else 16 + len8 (n / 65536)) else if 256 ≤ n then 8 + len8 (n / 256) else len8 n
def ulen (n : Nat) : Nat := if n < 128 then 1 else if n < 16384 then 2 else if n < 2097152 then 3 else if n < 268435456 then 4 else 5
def lens (j : Nat) : Nat := if j ≤ 7 then 1 else if j ≤ 14 then 2 else if j ≤ 21 then 3 else if j ≤ 28 then 4 else 5
theorem len8_le : ∀ m, m < 256 → len8 m ≤ 8 := by decide +kernel
theorem lens24 : ∀ m, m < 256 → 1 ≤ m → lens (24 + len8 m) = if m < 16 then 4 else 5 := by decide +kernel
theorem lens16 : ∀ m, m < 256 → 1 ≤ m → lens (16 + len8 m) = if m < 32 then 3 else 4 := by decide +kernel
theorem lens08 : ∀ m, m < 256 → 1 ≤ m → lens (8 + len8 m) = if m < 64 then 2 else 3 := by decide +kernel
theorem lens00 : ∀ m, m < 256 → lens (len8 m) = if m < 128 then 1 else 2 := by decide +kernel
theorem blen_le (n : Nat) (h : n < 4294967296) : blen n ≤ 32 := by
  unfold blen
  split
  · split
    · have := len8_le (n / 65536 / 256) (by omega); omega
    · have := len8_le (n / 65536) (by omega); omega
  · split
    · have := len8_le (n / 256) (by omega); omega
    · have := len8_le n (by omega); omega
theorem lens_blen (n : Nat) (h : n < 4294967296) : lens (blen n) = ulen n := by
  unfold blen ulen
  split
  · split
    · rw [lens24 _ (by omega) (by omega)]; split <;> (repeat' split) <;> omega
    · rw [lens16 _ (by omega) (by omega)]; split <;> (repeat' split) <;> omega
  · split
    · rw [lens08 _ (by omega) (by omega)]; split <;> (repeat' split) <;> omega
    · rw [lens00 _ (by omega)]; split <;> (repeat' split) <;> omega
theorem u8_id (n : Nat) (h : n < 256) : IntKind.u8.wrap (n : Int) = n := by rw [IntKind.wrap_u8]; omega
theorem zaI (n : Int) (h : -9223372036854775808 ≤ n ∧ n ≤ 9223372036854775807) : IntKind.i64.wrap n = n := by rw [IntKind.wrap_i64]; omega
theorem Len32_c (n : Nat) (hn : n < 4294967296) (w : World) : zan Tryd.prog 74 #[.int .u32 n] w fun v w' => v = .int .i64 (blen n) ∧ w' = w := by
  refine zaj Tryd.func74 rfl rfl Tryd.ntmps74 (by simp) ?_
  intro a hN hD ha
  have h0 : get a 0 = .int .u32 n := ha 0 _ rfl
  refine wp_seq_k fun K hK => ?_; refine zac ?_; refine zaF ?_; refine zaa ?_; refine hK _ _ ?_; clear hK K
  refine wp_cut (fun a' w' => a'.tmps.size = 19 ∧ a'.defers = [] ∧ w' = w ∧ ∃ m k : Nat, get a' 0 = .int .u32 m ∧ get a' 2 = .int .i64 k ∧ ((65536 ≤ n ∧ m = n / 65536 ∧ k = 16) ∨ (n < 65536 ∧ m = n ∧ k = 0))) ?_ ?_
  · by_cases hc : 65536 ≤ n
    · have d1 : decide ((65536 : Int) ≤ (n : Int)) = true := decide_eq_true (by omega)
      refine wp_seq_k fun K hK => ?_; refine zac ?_; (repeat (first | ((with_reducible refine zav ?_ ?_ ?_ ?_); (· exact rfl); (· simp [evb, kb, hN, h0, dyb, sdb] <;> omega); (· kernel_rfl); try simp only [evb, kb, hN, seval, pvb, h0]) | ((with_reducible refine zag ?_ ?_ ?_); rotate_left 1; (· simp [evb, kb, hN, h0, sdb]); rotate_left 1; (· kernel_rfl); try simp only [evb, kb, hN, seval, pvb, h0]) | ((with_reducible first | refine zai ?_ ?_ ?_ | refine zad ?_ ?_ | refine zae ?_ ?_ ?_) <;> (first | (with_reducible refine zal ?_; try simp only [evb, kb, hN, seval, pvb, h0]) | (simp [evb, kb, hN, h0, sdb] <;> omega))))); refine zaa ?_; refine hK _ _ ?_; clear hK K
      refine wp_cond_true (by simp [evb, kb, hN, h0, d1, sdb]) ?_
      refine wp_seq_k fun K hK => ?_; refine zac ?_; (repeat (first | ((with_reducible refine zav ?_ ?_ ?_ ?_); (· exact rfl); (· simp [evb, kb, hN, h0, dyb, sdb] <;> omega); (· kernel_rfl); try simp only [evb, kb, hN, seval, pvb, h0]) | ((with_reducible refine zag ?_ ?_ ?_); rotate_left 1; (· simp [evb, kb, hN, h0, sdb]); rotate_left 1; (· kernel_rfl); try simp only [evb, kb, hN, seval, pvb, h0]) | ((with_reducible first | refine zai ?_ ?_ ?_ | refine zad ?_ ?_ | refine zae ?_ ?_ ?_) <;> (first | (with_reducible refine zal ?_; try simp only [evb, kb, hN, seval, pvb, h0]) | (simp [evb, kb, hN, h0, sdb] <;> omega))))); refine zaa ?_; refine hK _ _ ?_; clear hK K
      refine zac ?_; (repeat (first | ((with_reducible refine zav ?_ ?_ ?_ ?_); (· exact rfl); (· simp [evb, kb, hN, h0, dyb, sdb] <;> omega); (· kernel_rfl); try simp only [evb, kb, hN, seval, pvb, h0]) | ((with_reducible refine zag ?_ ?_ ?_); rotate_left 1; (· simp [evb, kb, hN, h0, sdb]); rotate_left 1; (· kernel_rfl); try simp only [evb, kb, hN, seval, pvb, h0]) | ((with_reducible first | refine zai ?_ ?_ ?_ | refine zad ?_ ?_ | refine zae ?_ ?_ ?_) <;> (first | (with_reducible refine zal ?_; try simp only [evb, kb, hN, seval, pvb, h0]) | (simp [evb, kb, hN, h0, sdb] <;> omega))))); refine zaa ?_
      exact ⟨by simp [evb, kb, hN, seval], by simp [zab, hD], rfl, n / 65536, 16, by simp [evb, kb, hN, seval, IntKind.bits], by simp [evb, kb, hN, sdb], .inl ⟨hc, rfl, rfl⟩⟩
    · have d1 : decide ((65536 : Int) ≤ (n : Int)) = false := decide_eq_false (by omega)
      refine wp_seq_k fun K hK => ?_; refine zac ?_; (repeat (first | ((with_reducible refine zav ?_ ?_ ?_ ?_); (· exact rfl); (· simp [evb, kb, hN, h0, dyb, sdb] <;> omega); (· kernel_rfl); try simp only [evb, kb, hN, seval, pvb, h0]) | ((with_reducible refine zag ?_ ?_ ?_); rotate_left 1; (· simp [evb, kb, hN, h0, sdb]); rotate_left 1; (· kernel_rfl); try simp only [evb, kb, hN, seval, pvb, h0]) | ((with_reducible first | refine zai ?_ ?_ ?_ | refine zad ?_ ?_ | refine zae ?_ ?_ ?_) <;> (first | (with_reducible refine zal ?_; try simp only [evb, kb, hN, seval, pvb, h0]) | (simp [evb, kb, hN, h0, sdb] <;> omega))))); refine zaa ?_; refine hK _ _ ?_; clear hK K
      refine wp_cond_false (by simp [evb, kb, hN, h0, d1, sdb]) ?_
      refine wp_skip ?_
      exact ⟨by simp [evb, kb, hN, seval], by simp [zab, hD], rfl, n, 0, by simp [evb, kb, hN, h0, sdb], by simp [evb, kb, hN, sdb], .inr ⟨by omega, rfl, rfl⟩⟩
  rintro a w' ⟨hN, hD, rfl, m, k, h0, h2, hmk⟩
  refine wp_cut (fun a' w1 => a'.tmps.size = 19 ∧ a'.defers = [] ∧ w1 = w' ∧ ∃ m k : Nat, get a' 0 = .int .u32 m ∧ get a' 2 = .int .i64 k ∧ m < 256 ∧ k ≤ 24 ∧ blen n = k + len8 m) ?_ ?_
  · by_cases hc : 256 ≤ m
    · have d1 : decide ((256 : Int) ≤ (m : Int)) = true := decide_eq_true (by omega)
      have e1 := zaI ((k : Int) + 8) (by omega)
      refine wp_seq_k fun K hK => ?_; refine zac ?_; (repeat (first | ((with_reducible refine zav ?_ ?_ ?_ ?_); (· exact rfl); (· simp [evb, kb, hN, h0, dyb, sdb] <;> omega); (· kernel_rfl); try simp only [evb, kb, hN, seval, pvb, h0]) | ((with_reducible refine zag ?_ ?_ ?_); rotate_left 1; (· simp [evb, kb, hN, h0, sdb]); rotate_left 1; (· kernel_rfl); try simp only [evb, kb, hN, seval, pvb, h0]) | ((with_reducible first | refine zai ?_ ?_ ?_ | refine zad ?_ ?_ | refine zae ?_ ?_ ?_) <;> (first | (with_reducible refine zal ?_; try simp only [evb, kb, hN, seval, pvb, h0]) | (simp [evb, kb, hN, h0, sdb] <;> omega))))); refine zaa ?_; refine hK _ _ ?_; clear hK K
      refine wp_cond_true (by simp [evb, kb, hN, h0, d1, sdb]) ?_
      refine wp_seq_k fun K hK => ?_; refine zac ?_; (repeat (first | ((with_reducible refine zav ?_ ?_ ?_ ?_); (· exact rfl); (· simp [evb, kb, hN, h0, dyb, sdb] <;> omega); (· kernel_rfl); try simp only [evb, kb, hN, seval, pvb, h0]) | ((with_reducible refine zag ?_ ?_ ?_); rotate_left 1; (· simp [evb, kb, hN, h0, sdb]); rotate_left 1; (· kernel_rfl); try simp only [evb, kb, hN, seval, pvb, h0]) | ((with_reducible first | refine zai ?_ ?_ ?_ | refine zad ?_ ?_ | refine zae ?_ ?_ ?_) <;> (first | (with_reducible refine zal ?_; try simp only [evb, kb, hN, seval, pvb, h0]) | (simp [evb, kb, hN, h0, sdb] <;> omega))))); refine zaa ?_; refine hK _ _ ?_; clear hK K
      refine zac ?_; (repeat (first | ((with_reducible refine zav ?_ ?_ ?_ ?_); (· exact rfl); (· simp [evb, kb, hN, h2, e1, dyb, sdb] <;> omega); (· kernel_rfl); try simp only [evb, kb, hN, seval, pvb, h2, e1]) | ((with_reducible refine zag ?_ ?_ ?_); rotate_left 1; (· simp [evb, kb, hN, h2, e1, sdb]); rotate_left 1; (· kernel_rfl); try simp only [evb, kb, hN, seval, pvb, h2, e1]) | ((with_reducible first | refine zai ?_ ?_ ?_ | refine zad ?_ ?_ | refine zae ?_ ?_ ?_) <;> (first | (with_reducible refine zal ?_; try simp only [evb, kb, hN, seval, pvb, h2, e1]) | (simp [evb, kb, hN, h2, e1, sdb] <;> omega))))); refine zaa ?_
      refine ⟨by simp [evb, kb, hN, seval], by simp [zab, hD], rfl, m / 256, k + 8, by simp [evb, kb, hN, seval, IntKind.bits], by simp [evb, kb, hN, seval], by omega, by omega, ?_⟩
      unfold blen
      rcases hmk with ⟨h1, rfl, rfl⟩ | ⟨h1, rfl, rfl⟩
      · rw [if_pos h1, if_pos hc]
      · rw [if_neg (by omega), if_pos hc]
    · have d1 : decide ((256 : Int) ≤ (m : Int)) = false := decide_eq_false (by omega)
      refine wp_seq_k fun K hK => ?_; refine zac ?_; (repeat (first | ((with_reducible refine zav ?_ ?_ ?_ ?_); (· exact rfl); (· simp [evb, kb, hN, h0, dyb, sdb] <;> omega); (· kernel_rfl); try simp only [evb, kb, hN, seval, pvb, h0]) | ((with_reducible refine zag ?_ ?_ ?_); rotate_left 1; (· simp [evb, kb, hN, h0, sdb]); rotate_left 1; (· kernel_rfl); try simp only [evb, kb, hN, seval, pvb, h0]) | ((with_reducible first | refine zai ?_ ?_ ?_ | refine zad ?_ ?_ | refine zae ?_ ?_ ?_) <;> (first | (with_reducible refine zal ?_; try simp only [evb, kb, hN, seval, pvb, h0]) | (simp [evb, kb, hN, h0, sdb] <;> omega))))); refine zaa ?_; refine hK _ _ ?_; clear hK K
      refine wp_cond_false (by simp [evb, kb, hN, h0, d1, sdb]) ?_
      refine wp_skip ?_
      refine ⟨by simp [evb, kb, hN, seval], by simp [zab, hD], rfl, m, k, by simp [evb, kb, hN, h0, sdb], by simp [evb, kb, hN, h2, sdb], by omega, by omega, ?_⟩
      unfold blen
      rcases hmk with ⟨h1, rfl, rfl⟩ | ⟨h1, rfl, rfl⟩
      · rw [if_pos h1, if_neg hc]
      · rw [if_neg (by omega), if_neg hc]; omega
  rintro a w1 ⟨hN, hD, rfl, m, k, h0, h2, hm, hk, hb⟩
  have h8 := len8_le m hm
  refine wp_seq_k fun K hK => ?_; refine zac ?_; (repeat (first | ((with_reducible refine zav ?_ ?_ ?_ ?_); (· exact rfl); (· simp [evb, kb, hN, h0, h2, u8_id m hm, dyb, sdb] <;> omega); (· kernel_rfl); try simp only [evb, kb, hN, seval, pvb, h0, h2, u8_id m hm]) | ((with_reducible refine zag ?_ ?_ ?_); rotate_left 1; (· simp [evb, kb, hN, h0, h2, u8_id m hm, sdb]); rotate_left 1; (· kernel_rfl); try simp only [evb, kb, hN, seval, pvb, h0, h2, u8_id m hm]) | ((with_reducible first | refine zai ?_ ?_ ?_ | refine zad ?_ ?_ | refine zae ?_ ?_ ?_) <;> (first | (with_reducible refine zal ?_; try simp only [evb, kb, hN, seval, pvb, h0, h2, u8_id m hm]) | (simp [evb, kb, hN, h0, h2, u8_id m hm, sdb] <;> omega)))))
  refine wl_indexC (k := .u8) (i := m) (m := 256) len8 (by kernel_rfl) (by simp [evb, kb, hN, sdb]) hm (by decide +kernel) ?_
  (repeat (first | ((with_reducible refine zav ?_ ?_ ?_ ?_); (· exact rfl); (· simp [evb, kb, hN, zaI (len8 m : Int) (by omega), zaI ((k : Int) + (len8 m : Int)) (by omega), dyb, sdb] <;> omega); (· kernel_rfl); try simp only [evb, kb, hN, seval, pvb, zaI (len8 m : Int) (by omega), zaI ((k : Int) + (len8 m : Int)) (by omega)]) | ((with_reducible refine zag ?_ ?_ ?_); rotate_left 1; (· simp [evb, kb, hN, zaI (len8 m : Int) (by omega), zaI ((k : Int) + (len8 m : Int)) (by omega), sdb]); rotate_left 1; (· kernel_rfl); try simp only [evb, kb, hN, seval, pvb, zaI (len8 m : Int) (by omega), zaI ((k : Int) + (len8 m : Int)) (by omega)]) | ((with_reducible first | refine zai ?_ ?_ ?_ | refine zad ?_ ?_ | refine zae ?_ ?_ ?_) <;> (first | (with_reducible refine zal ?_; try simp only [evb, kb, hN, seval, pvb, zaI (len8 m : Int) (by omega), zaI ((k : Int) + (len8 m : Int)) (by omega)]) | (simp [evb, kb, hN, zaI (len8 m : Int) (by omega), zaI ((k : Int) + (len8 m : Int)) (by omega), sdb] <;> omega)))))
  refine zaa ?_; refine hK _ _ ?_; clear hK K; refine wp_ret ⟨by simp [zab, hD], ?_⟩; simp only [evb, kb, hN, seval]
  exact ⟨by rw [hb]; push_cast; rfl, by first | rfl | trivial⟩
theorem UvarintLen_c (n : Nat) (hn : n < 4294967296) (w : World) : zan Tryd.prog 66 #[.int .u32 n] w fun v w' => v = .int .i64 (ulen n) ∧ w' = w := by
  refine zaj Tryd.func66 rfl rfl Tryd.ntmps66 (by simp) ?_
  intro a hN hD ha
  have h0 : get a 0 = .int .u32 n := ha 0 _ rfl
  have hb := blen_le n hn
  refine wp_seq_k fun K hK => ?_; refine zac ?_; refine zaF ?_; refine zaa ?_; refine hK _ _ ?_; clear hK K
  refine wp_seq_k fun K hK => ?_; refine zac ?_; (repeat (first | ((with_reducible refine zav ?_ ?_ ?_ ?_); (· exact rfl); (· simp [evb, kb, hN, h0, dyb, sdb] <;> omega); (· kernel_rfl); try simp only [evb, kb, hN, seval, pvb, h0]) | ((with_reducible refine zag ?_ ?_ ?_); rotate_left 1; (· simp [evb, kb, hN, h0, sdb]); rotate_left 1; (· kernel_rfl); try simp only [evb, kb, hN, seval, pvb, h0]) | ((with_reducible first | refine zai ?_ ?_ ?_ | refine zad ?_ ?_ | refine zae ?_ ?_ ?_) <;> (first | (with_reducible refine zal ?_; try simp only [evb, kb, hN, seval, pvb, h0]) | (simp [evb, kb, hN, h0, sdb] <;> omega)))))
  refine zak (fun args w => Tryd.call74 args w) (by simp [evb, kb, hN, seval, h0]; exact Len32_c n hn w) ?_
  rintro v w1 ⟨rfl, rfl⟩
  (repeat (first | ((with_reducible refine zav ?_ ?_ ?_ ?_); (· exact rfl); (· simp [evb, kb, hN, u8_id (blen n) (by omega), dyb, sdb] <;> omega); (· kernel_rfl); try simp only [evb, kb, hN, seval, pvb, u8_id (blen n) (by omega)]) | ((with_reducible refine zag ?_ ?_ ?_); rotate_left 1; (· simp [evb, kb, hN, u8_id (blen n) (by omega), sdb]); rotate_left 1; (· kernel_rfl); try simp only [evb, kb, hN, seval, pvb, u8_id (blen n) (by omega)]) | ((with_reducible first | refine zai ?_ ?_ ?_ | refine zad ?_ ?_ | refine zae ?_ ?_ ?_) <;> (first | (with_reducible refine zal ?_; try simp only [evb, kb, hN, seval, pvb, u8_id (blen n) (by omega)]) | (simp [evb, kb, hN, u8_id (blen n) (by omega), sdb] <;> omega)))))
  refine wl_indexC (k := .u8) (i := blen n) (m := 33) lens (by kernel_rfl) (by simp [evb, kb, hN, sdb]) (by omega) (by decide +kernel) ?_
  have hl : lens (blen n) ≤ 5 := by unfold lens; (repeat' split) <;> omega
  (repeat (first | ((with_reducible refine zav ?_ ?_ ?_ ?_); (· exact rfl); (· simp [evb, kb, hN, zaI (lens (blen n) : Int) (by omega), dyb, sdb] <;> omega); (· kernel_rfl); try simp only [evb, kb, hN, seval, pvb, zaI (lens (blen n) : Int) (by omega)]) | ((with_reducible refine zag ?_ ?_ ?_); rotate_left 1; (· simp [evb, kb, hN, zaI (lens (blen n) : Int) (by omega), sdb]); rotate_left 1; (· kernel_rfl); try simp only [evb, kb, hN, seval, pvb, zaI (lens (blen n) : Int) (by omega)]) | ((with_reducible first | refine zai ?_ ?_ ?_ | refine zad ?_ ?_ | refine zae ?_ ?_ ?_) <;> (first | (with_reducible refine zal ?_; try simp only [evb, kb, hN, seval, pvb, zaI (lens (blen n) : Int) (by omega)]) | (simp [evb, kb, hN, zaI (lens (blen n) : Int) (by omega), sdb] <;> omega)))))
  refine zaa ?_; refine hK _ _ ?_; clear hK K; refine wp_ret ⟨by simp [zab, hD], ?_⟩; simp only [evb, kb, hN, seval]
  exact ⟨by rw [lens_blen n hn], by first | rfl | trivial⟩
theorem uvarAux_len1 (n : Nat) (h : n < 128) : uvar n = [UInt8.ofNat n] := by unfold uvar; simp [zat, h]
theorem bvU (n : Nat) (h : n < 256) : Value.int .u8 (n : Int) = byteV (UInt8.ofNat n) := by
  unfold byteV; congr 1; simp [UInt8.toNat_ofNat']; omega
theorem bw_or (n : Nat) : Value.int .u8 (IntKind.u8.wrap ((n : Int) % 128 + 128)) = byteV (UInt8.ofNat (n % 128 + 128)) := by
  rw [← bvU _ (by omega), wrap_u8]; congr 1; omega
theorem bw_id (n : Nat) (h : n < 256) : Value.int .u8 (IntKind.u8.wrap (n : Int)) = byteV (UInt8.ofNat n) := by
  rw [← bvU _ h, wrap_u8]; congr 1; omega
theorem uvar_2 (n : Nat) (h : ¬ n < 128) (h2 : n < 16384) : uvar n = [UInt8.ofNat (n % 128 + 128), UInt8.ofNat (n / 128)] := by
  have : n / 128 < 128 := by omega
  simp [uvar, zat, h, this]
theorem uvar_3 (n : Nat) (h : ¬ n < 16384) (h2 : n < 2097152) : uvar n = [UInt8.ofNat (n % 128 + 128), UInt8.ofNat (n / 128 % 128 + 128), UInt8.ofNat (n / 16384)] := by
  have a1 : ¬ n < 128 := by omega
  have a2 : ¬ n / 128 < 128 := by omega
  have a3 : n / 16384 < 128 := by omega
  have e : n / 128 / 128 = n / 16384 := by omega
  simp only [uvar, zat, if_neg a1, if_neg a2, e, if_pos a3]
theorem uvar_4 (n : Nat) (h : ¬ n < 2097152) (h2 : n < 268435456) : uvar n = [UInt8.ofNat (n % 128 + 128), UInt8.ofNat (n / 128 % 128 + 128), UInt8.ofNat (n / 16384 % 128 + 128), UInt8.ofNat (n / 2097152)] := by
  have a1 : ¬ n < 128 := by omega
  have a2 : ¬ n / 128 < 128 := by omega
  have a3 : ¬ n / 16384 < 128 := by omega
  have a4 : n / 2097152 < 128 := by omega
  have e : n / 128 / 128 = n / 16384 := by omega
  have e2 : n / 16384 / 128 = n / 2097152 := by omega
  simp only [uvar, zat, if_neg a1, if_neg a2, e, if_neg a3, e2, if_pos a4]
theorem uvar_5 (n : Nat) (h : ¬ n < 268435456) : uvar n = [UInt8.ofNat (n % 128 + 128), UInt8.ofNat (n / 128 % 128 + 128), UInt8.ofNat (n / 16384 % 128 + 128), UInt8.ofNat (n / 2097152 % 128 + 128), UInt8.ofNat (n / 268435456)] := by
  have a1 : ¬ n < 128 := by omega
  have a2 : ¬ n / 128 < 128 := by omega
  have a3 : ¬ n / 16384 < 128 := by omega
  have a4 : ¬ n / 2097152 < 128 := by omega
  have e : n / 128 / 128 = n / 16384 := by omega
  have e1 : n / 16384 / 128 = n / 2097152 := by omega
  have e2 : n / 2097152 / 128 = n / 268435456 := by omega
  simp only [uvar, zat, if_neg a1, if_neg a2, e, if_neg a3, e1, if_neg a4, e2]
theorem sh7 (n : Nat) : (n : Int) / 128 = ((n / 128 : Nat) : Int) := rfl
theorem sh14 (n : Nat) : (n : Int) / 16384 = ((n / 16384 : Nat) : Int) := rfl
theorem sh21 (n : Nat) : (n : Int) / 2097152 = ((n / 2097152 : Nat) : Int) := rfl
theorem sh28 (n : Nat) : (n : Int) / 268435456 = ((n / 268435456 : Nat) : Int) := rfl
theorem AppendUvarint_c (n : Nat) (hn : n < 4294967296) : AppC 45 [.int .u32 n] (uvar n) (fun _ => True) := by
  intro w base v bs hown hlim hb hpre
  refine zaj Tryd.func45 rfl rfl Tryd.ntmps45 (by simp) ?_
  intro a hN hD ha
  have h0 : get a 0 = v := ha 0 _ rfl
  have h1 : get a 1 = .int .u32 n := ha 1 _ rfl
  refine wp_seq_k fun K hK => ?_; refine zac ?_; refine zaF ?_; refine zaa ?_; refine hK _ _ ?_; clear hK K
  have hu := UvarintLen_c n hn w
  by_cases c1 : n < 128
  · have e : ulen n = 1 := by unfold ulen; rw [if_pos c1]
    have eu := uvarAux_len1 n c1
    rw [e] at hu
    rw [eu] at hlim ⊢
    refine wp_seq_k fun K hK => ?_; refine wp_seq_k fun K hK => ?_; refine zac ?_; (repeat (first | ((with_reducible refine zav ?_ ?_ ?_ ?_); (· exact rfl); (· simp [evb, kb, hN, h0, h1, dyb, sdb] <;> omega); (· kernel_rfl); try simp only [evb, kb, hN, seval, pvb, h0, h1]) | ((with_reducible refine zag ?_ ?_ ?_); rotate_left 1; (· simp [evb, kb, hN, h0, h1, sdb]); rotate_left 1; (· kernel_rfl); try simp only [evb, kb, hN, seval, pvb, h0, h1]) | ((with_reducible first | refine zai ?_ ?_ ?_ | refine zad ?_ ?_ | refine zae ?_ ?_ ?_) <;> (first | (with_reducible refine zal ?_; try simp only [evb, kb, hN, seval, pvb, h0, h1]) | (simp [evb, kb, hN, h0, h1, sdb] <;> omega)))))
    refine zak (fun args w => Tryd.call66 args w) (by simp [evb, kb, hN, seval, h1]; exact hu) ?_
    rintro x w1 ⟨rfl, rfl⟩
    refine zaa ?_; refine hK _ _ ?_; clear hK K
    refine wp_block ?_
    refine wp_seq_k fun K hK => ?_; refine zac ?_; (repeat (first | ((with_reducible refine zav ?_ ?_ ?_ ?_); (· exact rfl); (· simp [evb, kb, hN, dyb, sdb] <;> omega); (· kernel_rfl); try simp only [evb, kb, hN, seval, pvb]) | ((with_reducible refine zag ?_ ?_ ?_); rotate_left 1; (· simp [evb, kb, hN, sdb]); rotate_left 1; (· kernel_rfl); try simp only [evb, kb, hN, seval, pvb]) | ((with_reducible first | refine zai ?_ ?_ ?_ | refine zad ?_ ?_ | refine zae ?_ ?_ ?_) <;> (first | (with_reducible refine zal ?_; try simp only [evb, kb, hN, seval, pvb]) | (simp [evb, kb, hN, sdb] <;> omega))))); refine zaa ?_; refine hK _ _ ?_; clear hK K
    refine wp_cond_false (by simp [evb, kb, hN, sdb]) ?_
    refine wp_seq_k fun K hK => ?_; refine zac ?_; (repeat (first | ((with_reducible refine zav ?_ ?_ ?_ ?_); (· exact rfl); (· simp [evb, kb, hN, dyb, sdb] <;> omega); (· kernel_rfl); try simp only [evb, kb, hN, seval, pvb]) | ((with_reducible refine zag ?_ ?_ ?_); rotate_left 1; (· simp [evb, kb, hN, sdb]); rotate_left 1; (· kernel_rfl); try simp only [evb, kb, hN, seval, pvb]) | ((with_reducible first | refine zai ?_ ?_ ?_ | refine zad ?_ ?_ | refine zae ?_ ?_ ?_) <;> (first | (with_reducible refine zal ?_; try simp only [evb, kb, hN, seval, pvb]) | (simp [evb, kb, hN, sdb] <;> omega))))); refine zaa ?_; refine hK _ _ ?_; clear hK K
    refine wp_cond_false (by simp [evb, kb, hN, sdb]) ?_
    refine wp_seq_k fun K hK => ?_; refine zac ?_; (repeat (first | ((with_reducible refine zav ?_ ?_ ?_ ?_); (· exact rfl); (· simp [evb, kb, hN, dyb, sdb] <;> omega); (· kernel_rfl); try simp only [evb, kb, hN, seval, pvb]) | ((with_reducible refine zag ?_ ?_ ?_); rotate_left 1; (· simp [evb, kb, hN, sdb]); rotate_left 1; (· kernel_rfl); try simp only [evb, kb, hN, seval, pvb]) | ((with_reducible first | refine zai ?_ ?_ ?_ | refine zad ?_ ?_ | refine zae ?_ ?_ ?_) <;> (first | (with_reducible refine zal ?_; try simp only [evb, kb, hN, seval, pvb]) | (simp [evb, kb, hN, sdb] <;> omega))))); refine zaa ?_; refine hK _ _ ?_; clear hK K
    refine wp_cond_false (by simp [evb, kb, hN, sdb]) ?_
    refine wp_seq_k fun K hK => ?_; refine zac ?_; (repeat (first | ((with_reducible refine zav ?_ ?_ ?_ ?_); (· exact rfl); (· simp [evb, kb, hN, dyb, sdb] <;> omega); (· kernel_rfl); try simp only [evb, kb, hN, seval, pvb]) | ((with_reducible refine zag ?_ ?_ ?_); rotate_left 1; (· simp [evb, kb, hN, sdb]); rotate_left 1; (· kernel_rfl); try simp only [evb, kb, hN, seval, pvb]) | ((with_reducible first | refine zai ?_ ?_ ?_ | refine zad ?_ ?_ | refine zae ?_ ?_ ?_) <;> (first | (with_reducible refine zal ?_; try simp only [evb, kb, hN, seval, pvb]) | (simp [evb, kb, hN, sdb] <;> omega))))); refine zaa ?_; refine hK _ _ ?_; clear hK K
    refine wp_cond_false (by simp [evb, kb, hN, sdb]) ?_
    refine wp_seq_k fun K hK => ?_; refine zac ?_; (repeat (first | ((with_reducible refine zav ?_ ?_ ?_ ?_); (· exact rfl); (· simp [evb, kb, hN, dyb, sdb] <;> omega); (· kernel_rfl); try simp only [evb, kb, hN, seval, pvb]) | ((with_reducible refine zag ?_ ?_ ?_); rotate_left 1; (· simp [evb, kb, hN, sdb]); rotate_left 1; (· kernel_rfl); try simp only [evb, kb, hN, seval, pvb]) | ((with_reducible first | refine zai ?_ ?_ ?_ | refine zad ?_ ?_ | refine zae ?_ ?_ ?_) <;> (first | (with_reducible refine zal ?_; try simp only [evb, kb, hN, seval, pvb]) | (simp [evb, kb, hN, sdb] <;> omega))))); refine zaa ?_; refine hK _ _ ?_; clear hK K
    refine wp_cond_true (by simp [evb, kb, hN, sdb]) ?_
    refine wp_seq_k fun K hK => ?_; refine zac ?_; (repeat (first | ((with_reducible refine zav ?_ ?_ ?_ ?_); (· exact rfl); (· simp [evb, kb, hN, h0, h1, dyb, sdb] <;> omega); (· kernel_rfl); try simp only [evb, kb, hN, seval, pvb, h0, h1]) | ((with_reducible refine zag ?_ ?_ ?_); rotate_left 1; (· simp [evb, kb, hN, h0, h1, sdb]); rotate_left 1; (· kernel_rfl); try simp only [evb, kb, hN, seval, pvb, h0, h1]) | ((with_reducible first | refine zai ?_ ?_ ?_ | refine zad ?_ ?_ | refine zae ?_ ?_ ?_) <;> (first | (with_reducible refine zal ?_; try simp only [evb, kb, hN, seval, pvb, h0, h1]) | (simp [evb, kb, hN, h0, h1, sdb] <;> omega)))))
    refine wl_appLit [UInt8.ofNat n] (by simp [evb, kb, hN, seval, bw_id n (by omega), List.zipIdx]) rfl (by simp) (by simp [evb, kb, hN, h0, h1, sdb]) (by simp [zaf, hN]) hown hlim hb ?_
    intro v' w' happ
    (repeat (first | ((with_reducible refine zav ?_ ?_ ?_ ?_); (· exact rfl); (· simp [evb, kb, hN, dyb, sdb] <;> omega); (· kernel_rfl); try simp only [evb, kb, hN, seval, pvb]) | ((with_reducible refine zag ?_ ?_ ?_); rotate_left 1; (· simp [evb, kb, hN, sdb]); rotate_left 1; (· kernel_rfl); try simp only [evb, kb, hN, seval, pvb]) | ((with_reducible first | refine zai ?_ ?_ ?_ | refine zad ?_ ?_ | refine zae ?_ ?_ ?_) <;> (first | (with_reducible refine zal ?_; try simp only [evb, kb, hN, seval, pvb]) | (simp [evb, kb, hN, sdb] <;> omega))))); refine zaa ?_; refine hK _ _ ?_; clear hK K; refine wp_ret ⟨by simp [zab, hD], ?_⟩; simp only [evb, kb, hN, seval]
    exact happ
  by_cases c2 : n < 16384
  · have e : ulen n = 2 := by unfold ulen; rw [if_neg c1, if_pos c2]
    have eu := uvar_2 n c1 c2
    rw [e] at hu
    rw [eu] at hlim ⊢
    refine wp_seq_k fun K hK => ?_; refine wp_seq_k fun K hK => ?_; refine zac ?_; (repeat (first | ((with_reducible refine zav ?_ ?_ ?_ ?_); (· exact rfl); (· simp [evb, kb, hN, h0, h1, dyb, sdb] <;> omega); (· kernel_rfl); try simp only [evb, kb, hN, seval, pvb, h0, h1]) | ((with_reducible refine zag ?_ ?_ ?_); rotate_left 1; (· simp [evb, kb, hN, h0, h1, sdb]); rotate_left 1; (· kernel_rfl); try simp only [evb, kb, hN, seval, pvb, h0, h1]) | ((with_reducible first | refine zai ?_ ?_ ?_ | refine zad ?_ ?_ | refine zae ?_ ?_ ?_) <;> (first | (with_reducible refine zal ?_; try simp only [evb, kb, hN, seval, pvb, h0, h1]) | (simp [evb, kb, hN, h0, h1, sdb] <;> omega)))))
    refine zak (fun args w => Tryd.call66 args w) (by simp [evb, kb, hN, seval, h1]; exact hu) ?_
    rintro x w1 ⟨rfl, rfl⟩
    refine zaa ?_; refine hK _ _ ?_; clear hK K
    refine wp_block ?_
    refine wp_seq_k fun K hK => ?_; refine zac ?_; (repeat (first | ((with_reducible refine zav ?_ ?_ ?_ ?_); (· exact rfl); (· simp [evb, kb, hN, dyb, sdb] <;> omega); (· kernel_rfl); try simp only [evb, kb, hN, seval, pvb]) | ((with_reducible refine zag ?_ ?_ ?_); rotate_left 1; (· simp [evb, kb, hN, sdb]); rotate_left 1; (· kernel_rfl); try simp only [evb, kb, hN, seval, pvb]) | ((with_reducible first | refine zai ?_ ?_ ?_ | refine zad ?_ ?_ | refine zae ?_ ?_ ?_) <;> (first | (with_reducible refine zal ?_; try simp only [evb, kb, hN, seval, pvb]) | (simp [evb, kb, hN, sdb] <;> omega))))); refine zaa ?_; refine hK _ _ ?_; clear hK K
    refine wp_cond_false (by simp [evb, kb, hN, sdb]) ?_
    refine wp_seq_k fun K hK => ?_; refine zac ?_; (repeat (first | ((with_reducible refine zav ?_ ?_ ?_ ?_); (· exact rfl); (· simp [evb, kb, hN, dyb, sdb] <;> omega); (· kernel_rfl); try simp only [evb, kb, hN, seval, pvb]) | ((with_reducible refine zag ?_ ?_ ?_); rotate_left 1; (· simp [evb, kb, hN, sdb]); rotate_left 1; (· kernel_rfl); try simp only [evb, kb, hN, seval, pvb]) | ((with_reducible first | refine zai ?_ ?_ ?_ | refine zad ?_ ?_ | refine zae ?_ ?_ ?_) <;> (first | (with_reducible refine zal ?_; try simp only [evb, kb, hN, seval, pvb]) | (simp [evb, kb, hN, sdb] <;> omega))))); refine zaa ?_; refine hK _ _ ?_; clear hK K
    refine wp_cond_false (by simp [evb, kb, hN, sdb]) ?_
    refine wp_seq_k fun K hK => ?_; refine zac ?_; (repeat (first | ((with_reducible refine zav ?_ ?_ ?_ ?_); (· exact rfl); (· simp [evb, kb, hN, dyb, sdb] <;> omega); (· kernel_rfl); try simp only [evb, kb, hN, seval, pvb]) | ((with_reducible refine zag ?_ ?_ ?_); rotate_left 1; (· simp [evb, kb, hN, sdb]); rotate_left 1; (· kernel_rfl); try simp only [evb, kb, hN, seval, pvb]) | ((with_reducible first | refine zai ?_ ?_ ?_ | refine zad ?_ ?_ | refine zae ?_ ?_ ?_) <;> (first | (with_reducible refine zal ?_; try simp only [evb, kb, hN, seval, pvb]) | (simp [evb, kb, hN, sdb] <;> omega))))); refine zaa ?_; refine hK _ _ ?_; clear hK K
    refine wp_cond_false (by simp [evb, kb, hN, sdb]) ?_
    refine wp_seq_k fun K hK => ?_; refine zac ?_; (repeat (first | ((with_reducible refine zav ?_ ?_ ?_ ?_); (· exact rfl); (· simp [evb, kb, hN, dyb, sdb] <;> omega); (· kernel_rfl); try simp only [evb, kb, hN, seval, pvb]) | ((with_reducible refine zag ?_ ?_ ?_); rotate_left 1; (· simp [evb, kb, hN, sdb]); rotate_left 1; (· kernel_rfl); try simp only [evb, kb, hN, seval, pvb]) | ((with_reducible first | refine zai ?_ ?_ ?_ | refine zad ?_ ?_ | refine zae ?_ ?_ ?_) <;> (first | (with_reducible refine zal ?_; try simp only [evb, kb, hN, seval, pvb]) | (simp [evb, kb, hN, sdb] <;> omega))))); refine zaa ?_; refine hK _ _ ?_; clear hK K
    refine wp_cond_true (by simp [evb, kb, hN, sdb]) ?_
    refine wp_seq_k fun K hK => ?_; refine zac ?_; (repeat (first | ((with_reducible refine zav ?_ ?_ ?_ ?_); (· exact rfl); (· simp [evb, kb, hN, h0, h1, dyb, sdb] <;> omega); (· kernel_rfl); try simp only [evb, kb, hN, seval, pvb, h0, h1]) | ((with_reducible refine zag ?_ ?_ ?_); rotate_left 1; (· simp [evb, kb, hN, h0, h1, sdb]); rotate_left 1; (· kernel_rfl); try simp only [evb, kb, hN, seval, pvb, h0, h1]) | ((with_reducible first | refine zai ?_ ?_ ?_ | refine zad ?_ ?_ | refine zae ?_ ?_ ?_) <;> (first | (with_reducible refine zal ?_; try simp only [evb, kb, hN, seval, pvb, h0, h1]) | (simp [evb, kb, hN, h0, h1, sdb] <;> omega)))))
    refine wl_appLit [UInt8.ofNat (n % 128 + 128), UInt8.ofNat (n / 128)] (by simp [-UInt8.ofNat_add, evb, kb, hN, seval, h1, IntKind.bits, List.zipIdx]; simp only [bw_or, sh7, bw_id (n / 128) (by omega), and_self, and_true]) rfl (by simp) (by simp [evb, kb, hN, h0, h1, sdb]) (by simp [zaf, hN]) hown hlim hb ?_
    intro v' w' happ
    (repeat (first | ((with_reducible refine zav ?_ ?_ ?_ ?_); (· exact rfl); (· simp [evb, kb, hN, dyb, sdb] <;> omega); (· kernel_rfl); try simp only [evb, kb, hN, seval, pvb]) | ((with_reducible refine zag ?_ ?_ ?_); rotate_left 1; (· simp [evb, kb, hN, sdb]); rotate_left 1; (· kernel_rfl); try simp only [evb, kb, hN, seval, pvb]) | ((with_reducible first | refine zai ?_ ?_ ?_ | refine zad ?_ ?_ | refine zae ?_ ?_ ?_) <;> (first | (with_reducible refine zal ?_; try simp only [evb, kb, hN, seval, pvb]) | (simp [evb, kb, hN, sdb] <;> omega))))); refine zaa ?_; refine hK _ _ ?_; clear hK K; refine wp_ret ⟨by simp [zab, hD], ?_⟩; simp only [evb, kb, hN, seval]
    exact happ
  by_cases c3 : n < 2097152
  · have e : ulen n = 3 := by unfold ulen; rw [if_neg c1, if_neg c2, if_pos c3]
    have eu := uvar_3 n c2 c3
    rw [e] at hu
    rw [eu] at hlim ⊢
    refine wp_seq_k fun K hK => ?_; refine wp_seq_k fun K hK => ?_; refine zac ?_; (repeat (first | ((with_reducible refine zav ?_ ?_ ?_ ?_); (· exact rfl); (· simp [evb, kb, hN, h0, h1, dyb, sdb] <;> omega); (· kernel_rfl); try simp only [evb, kb, hN, seval, pvb, h0, h1]) | ((with_reducible refine zag ?_ ?_ ?_); rotate_left 1; (· simp [evb, kb, hN, h0, h1, sdb]); rotate_left 1; (· kernel_rfl); try simp only [evb, kb, hN, seval, pvb, h0, h1]) | ((with_reducible first | refine zai ?_ ?_ ?_ | refine zad ?_ ?_ | refine zae ?_ ?_ ?_) <;> (first | (with_reducible refine zal ?_; try simp only [evb, kb, hN, seval, pvb, h0, h1]) | (simp [evb, kb, hN, h0, h1, sdb] <;> omega)))))
    refine zak (fun args w => Tryd.call66 args w) (by simp [evb, kb, hN, seval, h1]; exact hu) ?_
    rintro x w1 ⟨rfl, rfl⟩
    refine zaa ?_; refine hK _ _ ?_; clear hK K
    refine wp_block ?_
    refine wp_seq_k fun K hK => ?_; refine zac ?_; (repeat (first | ((with_reducible refine zav ?_ ?_ ?_ ?_); (· exact rfl); (· simp [evb, kb, hN, dyb, sdb] <;> omega); (· kernel_rfl); try simp only [evb, kb, hN, seval, pvb]) | ((with_reducible refine zag ?_ ?_ ?_); rotate_left 1; (· simp [evb, kb, hN, sdb]); rotate_left 1; (· kernel_rfl); try simp only [evb, kb, hN, seval, pvb]) | ((with_reducible first | refine zai ?_ ?_ ?_ | refine zad ?_ ?_ | refine zae ?_ ?_ ?_) <;> (first | (with_reducible refine zal ?_; try simp only [evb, kb, hN, seval, pvb]) | (simp [evb, kb, hN, sdb] <;> omega))))); refine zaa ?_; refine hK _ _ ?_; clear hK K
    refine wp_cond_false (by simp [evb, kb, hN, sdb]) ?_
    refine wp_seq_k fun K hK => ?_; refine zac ?_; (repeat (first | ((with_reducible refine zav ?_ ?_ ?_ ?_); (· exact rfl); (· simp [evb, kb, hN, dyb, sdb] <;> omega); (· kernel_rfl); try simp only [evb, kb, hN, seval, pvb]) | ((with_reducible refine zag ?_ ?_ ?_); rotate_left 1; (· simp [evb, kb, hN, sdb]); rotate_left 1; (· kernel_rfl); try simp only [evb, kb, hN, seval, pvb]) | ((with_reducible first | refine zai ?_ ?_ ?_ | refine zad ?_ ?_ | refine zae ?_ ?_ ?_) <;> (first | (with_reducible refine zal ?_; try simp only [evb, kb, hN, seval, pvb]) | (simp [evb, kb, hN, sdb] <;> omega))))); refine zaa ?_; refine hK _ _ ?_; clear hK K
    refine wp_cond_false (by simp [evb, kb, hN, sdb]) ?_
    refine wp_seq_k fun K hK => ?_; refine zac ?_; (repeat (first | ((with_reducible refine zav ?_ ?_ ?_ ?_); (· exact rfl); (· simp [evb, kb, hN, dyb, sdb] <;> omega); (· kernel_rfl); try simp only [evb, kb, hN, seval, pvb]) | ((with_reducible refine zag ?_ ?_ ?_); rotate_left 1; (· simp [evb, kb, hN, sdb]); rotate_left 1; (· kernel_rfl); try simp only [evb, kb, hN, seval, pvb]) | ((with_reducible first | refine zai ?_ ?_ ?_ | refine zad ?_ ?_ | refine zae ?_ ?_ ?_) <;> (first | (with_reducible refine zal ?_; try simp only [evb, kb, hN, seval, pvb]) | (simp [evb, kb, hN, sdb] <;> omega))))); refine zaa ?_; refine hK _ _ ?_; clear hK K
    refine wp_cond_true (by simp [evb, kb, hN, sdb]) ?_
    refine wp_seq_k fun K hK => ?_; refine zac ?_; (repeat (first | ((with_reducible refine zav ?_ ?_ ?_ ?_); (· exact rfl); (· simp [evb, kb, hN, h0, h1, dyb, sdb] <;> omega); (· kernel_rfl); try simp only [evb, kb, hN, seval, pvb, h0, h1]) | ((with_reducible refine zag ?_ ?_ ?_); rotate_left 1; (· simp [evb, kb, hN, h0, h1, sdb]); rotate_left 1; (· kernel_rfl); try simp only [evb, kb, hN, seval, pvb, h0, h1]) | ((with_reducible first | refine zai ?_ ?_ ?_ | refine zad ?_ ?_ | refine zae ?_ ?_ ?_) <;> (first | (with_reducible refine zal ?_; try simp only [evb, kb, hN, seval, pvb, h0, h1]) | (simp [evb, kb, hN, h0, h1, sdb] <;> omega)))))
    refine wl_appLit [UInt8.ofNat (n % 128 + 128), UInt8.ofNat (n / 128 % 128 + 128), UInt8.ofNat (n / 16384)] (by simp [-UInt8.ofNat_add, evb, kb, hN, seval, h1, IntKind.bits, List.zipIdx]; simp only [sh7, sh14, bw_or, bw_id (n / 16384) (by omega), and_self, and_true]) rfl (by simp) (by simp [evb, kb, hN, h0, h1, sdb]) (by simp [zaf, hN]) hown hlim hb ?_
    intro v' w' happ
    (repeat (first | ((with_reducible refine zav ?_ ?_ ?_ ?_); (· exact rfl); (· simp [evb, kb, hN, dyb, sdb] <;> omega); (· kernel_rfl); try simp only [evb, kb, hN, seval, pvb]) | ((with_reducible refine zag ?_ ?_ ?_); rotate_left 1; (· simp [evb, kb, hN, sdb]); rotate_left 1; (· kernel_rfl); try simp only [evb, kb, hN, seval, pvb]) | ((with_reducible first | refine zai ?_ ?_ ?_ | refine zad ?_ ?_ | refine zae ?_ ?_ ?_) <;> (first | (with_reducible refine zal ?_; try simp only [evb, kb, hN, seval, pvb]) | (simp [evb, kb, hN, sdb] <;> omega))))); refine zaa ?_; refine hK _ _ ?_; clear hK K; refine wp_ret ⟨by simp [zab, hD], ?_⟩; simp only [evb, kb, hN, seval]
    exact happ
  by_cases c4 : n < 268435456
  · have e : ulen n = 4 := by unfold ulen; rw [if_neg c1, if_neg c2, if_neg c3, if_pos c4]
    have eu := uvar_4 n c3 c4
    rw [e] at hu
    rw [eu] at hlim ⊢
    refine wp_seq_k fun K hK => ?_; refine wp_seq_k fun K hK => ?_; refine zac ?_; (repeat (first | ((with_reducible refine zav ?_ ?_ ?_ ?_); (· exact rfl); (· simp [evb, kb, hN, h0, h1, dyb, sdb] <;> omega); (· kernel_rfl); try simp only [evb, kb, hN, seval, pvb, h0, h1]) | ((with_reducible refine zag ?_ ?_ ?_); rotate_left 1; (· simp [evb, kb, hN, h0, h1, sdb]); rotate_left 1; (· kernel_rfl); try simp only [evb, kb, hN, seval, pvb, h0, h1]) | ((with_reducible first | refine zai ?_ ?_ ?_ | refine zad ?_ ?_ | refine zae ?_ ?_ ?_) <;> (first | (with_reducible refine zal ?_; try simp only [evb, kb, hN, seval, pvb, h0, h1]) | (simp [evb, kb, hN, h0, h1, sdb] <;> omega)))))
    refine zak (fun args w => Tryd.call66 args w) (by simp [evb, kb, hN, seval, h1]; exact hu) ?_
    rintro x w1 ⟨rfl, rfl⟩
    refine zaa ?_; refine hK _ _ ?_; clear hK K
    refine wp_block ?_
    refine wp_seq_k fun K hK => ?_; refine zac ?_; (repeat (first | ((with_reducible refine zav ?_ ?_ ?_ ?_); (· exact rfl); (· simp [evb, kb, hN, dyb, sdb] <;> omega); (· kernel_rfl); try simp only [evb, kb, hN, seval, pvb]) | ((with_reducible refine zag ?_ ?_ ?_); rotate_left 1; (· simp [evb, kb, hN, sdb]); rotate_left 1; (· kernel_rfl); try simp only [evb, kb, hN, seval, pvb]) | ((with_reducible first | refine zai ?_ ?_ ?_ | refine zad ?_ ?_ | refine zae ?_ ?_ ?_) <;> (first | (with_reducible refine zal ?_; try simp only [evb, kb, hN, seval, pvb]) | (simp [evb, kb, hN, sdb] <;> omega))))); refine zaa ?_; refine hK _ _ ?_; clear hK K
    refine wp_cond_false (by simp [evb, kb, hN, sdb]) ?_
    refine wp_seq_k fun K hK => ?_; refine zac ?_; (repeat (first | ((with_reducible refine zav ?_ ?_ ?_ ?_); (· exact rfl); (· simp [evb, kb, hN, dyb, sdb] <;> omega); (· kernel_rfl); try simp only [evb, kb, hN, seval, pvb]) | ((with_reducible refine zag ?_ ?_ ?_); rotate_left 1; (· simp [evb, kb, hN, sdb]); rotate_left 1; (· kernel_rfl); try simp only [evb, kb, hN, seval, pvb]) | ((with_reducible first | refine zai ?_ ?_ ?_ | refine zad ?_ ?_ | refine zae ?_ ?_ ?_) <;> (first | (with_reducible refine zal ?_; try simp only [evb, kb, hN, seval, pvb]) | (simp [evb, kb, hN, sdb] <;> omega))))); refine zaa ?_; refine hK _ _ ?_; clear hK K
    refine wp_cond_true (by simp [evb, kb, hN, sdb]) ?_
    refine wp_seq_k fun K hK => ?_; refine zac ?_; (repeat (first | ((with_reducible refine zav ?_ ?_ ?_ ?_); (· exact rfl); (· simp [evb, kb, hN, h0, h1, dyb, sdb] <;> omega); (· kernel_rfl); try simp only [evb, kb, hN, seval, pvb, h0, h1]) | ((with_reducible refine zag ?_ ?_ ?_); rotate_left 1; (· simp [evb, kb, hN, h0, h1, sdb]); rotate_left 1; (· kernel_rfl); try simp only [evb, kb, hN, seval, pvb, h0, h1]) | ((with_reducible first | refine zai ?_ ?_ ?_ | refine zad ?_ ?_ | refine zae ?_ ?_ ?_) <;> (first | (with_reducible refine zal ?_; try simp only [evb, kb, hN, seval, pvb, h0, h1]) | (simp [evb, kb, hN, h0, h1, sdb] <;> omega)))))
    refine wl_appLit [UInt8.ofNat (n % 128 + 128), UInt8.ofNat (n / 128 % 128 + 128), UInt8.ofNat (n / 16384 % 128 + 128), UInt8.ofNat (n / 2097152)] (by simp [-UInt8.ofNat_add, evb, kb, hN, seval, h1, IntKind.bits, List.zipIdx]; simp only [sh7, sh14, sh21, bw_or, bw_id (n / 2097152) (by omega), and_self, and_true]) rfl (by simp) (by simp [evb, kb, hN, h0, h1, sdb]) (by simp [zaf, hN]) hown hlim hb ?_
    intro v' w' happ
    (repeat (first | ((with_reducible refine zav ?_ ?_ ?_ ?_); (· exact rfl); (· simp [evb, kb, hN, dyb, sdb] <;> omega); (· kernel_rfl); try simp only [evb, kb, hN, seval, pvb]) | ((with_reducible refine zag ?_ ?_ ?_); rotate_left 1; (· simp [evb, kb, hN, sdb]); rotate_left 1; (· kernel_rfl); try simp only [evb, kb, hN, seval, pvb]) | ((with_reducible first | refine zai ?_ ?_ ?_ | refine zad ?_ ?_ | refine zae ?_ ?_ ?_) <;> (first | (with_reducible refine zal ?_; try simp only [evb, kb, hN, seval, pvb]) | (simp [evb, kb, hN, sdb] <;> omega))))); refine zaa ?_; refine hK _ _ ?_; clear hK K; refine wp_ret ⟨by simp [zab, hD], ?_⟩; simp only [evb, kb, hN, seval]
    exact happ
  · have e : ulen n = 5 := by unfold ulen; rw [if_neg c1, if_neg c2, if_neg c3, if_neg c4]
    have eu := uvar_5 n c4
    rw [e] at hu
    rw [eu] at hlim ⊢
    refine wp_seq_k fun K hK => ?_; refine wp_seq_k fun K hK => ?_; refine zac ?_; (repeat (first | ((with_reducible refine zav ?_ ?_ ?_ ?_); (· exact rfl); (· simp [evb, kb, hN, h0, h1, dyb, sdb] <;> omega); (· kernel_rfl); try simp only [evb, kb, hN, seval, pvb, h0, h1]) | ((with_reducible refine zag ?_ ?_ ?_); rotate_left 1; (· simp [evb, kb, hN, h0, h1, sdb]); rotate_left 1; (· kernel_rfl); try simp only [evb, kb, hN, seval, pvb, h0, h1]) | ((with_reducible first | refine zai ?_ ?_ ?_ | refine zad ?_ ?_ | refine zae ?_ ?_ ?_) <;> (first | (with_reducible refine zal ?_; try simp only [evb, kb, hN, seval, pvb, h0, h1]) | (simp [evb, kb, hN, h0, h1, sdb] <;> omega)))))
    refine zak (fun args w => Tryd.call66 args w) (by simp [evb, kb, hN, seval, h1]; exact hu) ?_
    rintro x w1 ⟨rfl, rfl⟩
    refine zaa ?_; refine hK _ _ ?_; clear hK K
    refine wp_block ?_
    refine wp_seq_k fun K hK => ?_; refine zac ?_; (repeat (first | ((with_reducible refine zav ?_ ?_ ?_ ?_); (· exact rfl); (· simp [evb, kb, hN, dyb, sdb] <;> omega); (· kernel_rfl); try simp only [evb, kb, hN, seval, pvb]) | ((with_reducible refine zag ?_ ?_ ?_); rotate_left 1; (· simp [evb, kb, hN, sdb]); rotate_left 1; (· kernel_rfl); try simp only [evb, kb, hN, seval, pvb]) | ((with_reducible first | refine zai ?_ ?_ ?_ | refine zad ?_ ?_ | refine zae ?_ ?_ ?_) <;> (first | (with_reducible refine zal ?_; try simp only [evb, kb, hN, seval, pvb]) | (simp [evb, kb, hN, sdb] <;> omega))))); refine zaa ?_; refine hK _ _ ?_; clear hK K
    refine wp_cond_true (by simp [evb, kb, hN, sdb]) ?_
    refine wp_seq_k fun K hK => ?_; refine zac ?_; (repeat (first | ((with_reducible refine zav ?_ ?_ ?_ ?_); (· exact rfl); (· simp [evb, kb, hN, h0, h1, dyb, sdb] <;> omega); (· kernel_rfl); try simp only [evb, kb, hN, seval, pvb, h0, h1]) | ((with_reducible refine zag ?_ ?_ ?_); rotate_left 1; (· simp [evb, kb, hN, h0, h1, sdb]); rotate_left 1; (· kernel_rfl); try simp only [evb, kb, hN, seval, pvb, h0, h1]) | ((with_reducible first | refine zai ?_ ?_ ?_ | refine zad ?_ ?_ | refine zae ?_ ?_ ?_) <;> (first | (with_reducible refine zal ?_; try simp only [evb, kb, hN, seval, pvb, h0, h1]) | (simp [evb, kb, hN, h0, h1, sdb] <;> omega)))))
    refine wl_appLit [UInt8.ofNat (n % 128 + 128), UInt8.ofNat (n / 128 % 128 + 128), UInt8.ofNat (n / 16384 % 128 + 128), UInt8.ofNat (n / 2097152 % 128 + 128), UInt8.ofNat (n / 268435456)] (by simp [-UInt8.ofNat_add, evb, kb, hN, seval, h1, IntKind.bits, List.zipIdx]; simp only [sh7, sh14, sh21, sh28, bw_or, bw_id (n / 268435456) (by omega), and_self, and_true]) rfl (by simp) (by simp [evb, kb, hN, h0, h1, sdb]) (by simp [zaf, hN]) hown hlim hb ?_
    intro v' w' happ
    (repeat (first | ((with_reducible refine zav ?_ ?_ ?_ ?_); (· exact rfl); (· simp [evb, kb, hN, dyb, sdb] <;> omega); (· kernel_rfl); try simp only [evb, kb, hN, seval, pvb]) | ((with_reducible refine zag ?_ ?_ ?_); rotate_left 1; (· simp [evb, kb, hN, sdb]); rotate_left 1; (· kernel_rfl); try simp only [evb, kb, hN, seval, pvb]) | ((with_reducible first | refine zai ?_ ?_ ?_ | refine zad ?_ ?_ | refine zae ?_ ?_ ?_) <;> (first | (with_reducible refine zal ?_; try simp only [evb, kb, hN, seval, pvb]) | (simp [evb, kb, hN, sdb] <;> omega))))); refine zaa ?_; refine hK _ _ ?_; clear hK K; refine wp_ret ⟨by simp [zab, hD], ?_⟩; simp only [evb, kb, hN, seval]
    exact happ
end Go.Proofs.YtojpodeljpfgaaaDoor
namespace Go.Proofs.YtojpodeljpfgaaaDoor
set_option linter.all false
open Go.RowKit Go.Lib
set_option maxRecDepth 10000
end Go.Proofs.YtojpodeljpfgaaaDoor
namespace Go.Proofs.YtojpodeljpfgaaaDoor
set_option linter.all false
open Go.RowKit
set_option maxRecDepth 10000
def LoopQ (b : Nat) (K : Act → World → Prop) (R : Act → World → Prop) : Exit → Act → World → Prop
  | .normal, a, w => K a w
  | .exit id, a, w => id = b ∧ K a w
  | .ret, a, w => R a w
  | _, _, _ => False
theorem wp_range {n b1 b2 r1 r2 u1 u2 u3 u4 ti ti2 : Nat} {y0 y1 y2 : TypeId} {q0 q1 q2 : String} {e0 e1 e2 : Array Edge} {body : Code} {Q : Exit → Act → World → Prop} {a : Act} {w : World}
    (Inv : Nat → Act → World → Prop) (sz : Nat) (hn : n ≤ 4611686018427387904)
    (h1 : get a u1 = .int .i64 n) (h2 : get a u2 = .int .i64 0) (h0 : Inv 0 a w)
    (hsz : ∀ i a w, Inv i a w → a.tmps.size = sz) (hput : ∀ i a w t v, (t = u2 ∨ t = u3 ∨ t = u4) → Inv i a w → Inv i (a.put (some t) v) w)
    (hlt : u1 < sz ∧ u2 < sz ∧ u3 < sz ∧ u4 < sz ∧ u2 ≠ u1 ∧ u3 ≠ u1 ∧ u3 ≠ u2 ∧ u4 ≠ u1 ∧ u4 ≠ u2)
    (hbody : ∀ i a w, i < n → Inv i a w → get a u1 = .int .i64 n → get a u2 = .int .i64 i → body.wp Tryd.prog (LoopQ b2 (fun a' w' => Inv (i + 1) a' w' ∧ get a' u1 = .int .i64 n ∧ get a' u2 = .int .i64 i) (Q .ret)) a w)
    (hend : ∀ a w, Inv n a w → Q .normal a w) :
    (Code.block b1 (.loop (.seq (.region r1 #[⟨some u3, .binOp .lss ti (.tmp u2) (.tmp u1) ti2, y0, q0, e0, none⟩] false) (.seq (.cond (.tmp u3) .skip (.exit b1)) (.seq (.block b2 body)
      (.region r2 #[⟨some u4, .binOp .add ti (.tmp u2) (.const (.int .i64 1)) ti2, y1, q1, e1, none⟩, ⟨some u2, .move (.tmp u4), y2, q2, e2, none⟩] false)))))).wp Tryd.prog Q a w := by
  obtain ⟨l1, l2, l3, l4, n1, n2, n3, n4, n5⟩ := hlt
  refine wp_block ?_
  refine wp_loop (fun a' w' => ∃ i, i ≤ n ∧ Inv i a' w' ∧ get a' u1 = .int .i64 n ∧ get a' u2 = .int .i64 i) (fun a' _ => n - (intOf (get a' u2)).toNat) ?_ ?_
  · exact ⟨0, Nat.zero_le _, h0, h1, by rw [h2]; rfl⟩
  clear h0 h1 h2
  rintro a1 w1 ⟨i, hi, hI, g1, g2⟩
  have hN := hsz _ _ _ hI
  refine wp_seq_k fun K hK => ?_
  refine zac ?_
  refine wl_lss (by rw [eval_tmp, eval_tmp, g1, g2]; rfl) ?_
  rw [eval_tmp, eval_tmp, g1, g2]
  simp only [cmp2]
  refine zaa (hK _ _ ?_)
  clear hK K
  refine wp_seq_k fun K hK => ?_
  have hI3 := fun v => hput i a1 w1 u3 v (.inr (.inl rfl)) hI
  by_cases hlt : i < n
  · have e1 : decide ((i : Int) < (n : Int)) = true := decide_eq_true (by omega)
    rw [e1]
    refine wp_cond_true (by rw [eval_tmp, get_put_self (by omega)]) ?_
    refine wp_skip (hK _ _ ?_)
    clear hK K
    refine wp_seq_k fun K hK => ?_
    refine wp_block ?_
    refine wp_mono (hbody i _ w1 hlt (hI3 _) ((zaq n2).trans g1) ((zaq n3).trans g2)) ?_
    have next : ∀ a2 w2, (Inv (i + 1) a2 w2 ∧ get a2 u1 = .int .i64 n ∧ get a2 u2 = .int .i64 i) → K a2 w2 := by
      rintro a2 w2 ⟨k1, k2, k3⟩
      have hN2 := hsz _ _ _ k1
      refine hK _ _ ?_
      refine zac ?_
      refine wl_add (by rw [eval_tmp, eval_const, k3]; rfl) ?_
      rw [eval_tmp, eval_const, k3]
      simp only [add2]
      rw [zaI ((i : Int) + 1) (by omega)]
      refine wl_move ?_
      rw [eval_tmp, get_put_self (by omega)]
      refine zaa ⟨⟨i + 1, hlt, hput _ _ _ _ _ (.inl rfl) (hput _ _ _ _ _ (.inr (.inr rfl)) k1), ?_, ?_⟩, ?_⟩
      · rw [zaq n1, zaq n4]; exact k2
      · rw [get_put_self (by rw [zaf]; omega)]; rfl
      · rw [get_put_self (by rw [zaf]; omega), g2]
        simp only [intOf]; omega
    intro e a2 w2 hq
    cases e with
    | normal => exact next _ _ hq
    | exit id =>
      obtain ⟨rfl, hq⟩ := hq
      simp only [Exit.inBlock, if_pos]
      exact next _ _ hq
    | ret => exact hq
    | _ => exact hq.elim
  · have e1 : decide ((i : Int) < (n : Int)) = false := decide_eq_false (by omega)
    rw [e1]
    have ei : i = n := by omega
    subst ei
    refine wp_cond_false (by rw [eval_tmp, get_put_self (by omega)]) ?_
    refine wp_exit ?_
    simp only [Exit.then, Exit.inBlock, if_pos]
    exact hend _ _ (hI3 _)
end Go.Proofs.YtojpodeljpfgaaaDoor
