import Derived.Test.YtojpodeljpfgaaaDoorZ3
/-
What the proofs of the laws rest on, part Z4.
-/
namespace Go.Proofs.YtojpodeljpfgaaaDoor
set_option linter.all false
open Go.RowKit
set_option maxRecDepth 10000
set_option maxHeartbeats 16000000
def uvR64 (bs : Bs) (x : Nat) (m : Int) : Prop := match rUvl 9 bs with
  | some (y, r) => x = y ∧ 0 < m ∧ m ≤ bs.length ∧ r = bs.drop m.toNat
  | none => x = 0 ∧ m ≤ 0
theorem uvR64_none {bs : Bs} (h : rUvl 9 bs = none) {m : Int} (hm : m ≤ 0) : uvR64 bs 0 m := by unfold uvR64; rw [h]; exact ⟨rfl, hm⟩
theorem uvR64_some {bs r : Bs} {y x : Nat} (h : rUvl 9 bs = some (y, r)) (hx : x = y) {m : Int} (hm : 0 < m) (hl : m ≤ bs.length) (hr : r = bs.drop m.toNat) : uvR64 bs x m := by unfold uvR64; rw [h]; exact ⟨hx, hm, hl, hr⟩
theorem u64_sm {n : Nat} (h : n < 256) : IntKind.u64.wrap ((n : Nat) : Int) = n := wrapU rfl (by show _ < 18446744073709551616; omega)
theorem uvl_lt : ∀ (k : Nat) {bs r : Bs} {n : Nat}, rUvl k bs = some (n, r) → n < 2 * 128 ^ k
  | k, [], r, n, h => by unfold rUvl at h; cases h
  | 0, b :: r', r, n, h => by
    unfold rUvl at h
    split at h
    · cases h; omega
    · cases h
  | k + 1, b :: r', r, n, h => by
    have hp : 0 < 128 ^ k := Nat.pow_pos (by decide)
    unfold rUvl at h
    split at h
    · cases h; rw [Nat.pow_succ]; omega
    · cases h1 : rUvl k r' with
      | none => rw [h1] at h; cases h
      | some y =>
        rw [h1] at h
        simp only [Option.map_some, Option.some.injEq, Prod.mk.injEq] at h
        have ih := uvl_lt k (n := y.1) (r := y.2) h1
        rw [Nat.pow_succ]; omega
def uvJ64 (w : World) (n : Nat) (p : Prop) (a : Act) (w' : World) : Prop := p ∧ a.tmps.size = n ∧ a.defers = [] ∧ w' = w ∧ ∃ m, get a 5 = .int .i64 m ∧ m ≤ 0
theorem uvarlong_c (w : World) (G : Nat → Prop) (oa : Option Addr) (bs : Bs) (cap : Nat) (hb : zam w G oa bs) : zan Tryd.prog 78 #[.slice oa bs.length cap] w fun v w' => w' = w ∧ ∃ x m, v = .tuple #[.int .u64 (x : Nat), .int .i64 m] ∧ uvR64 bs x m := by
  refine callsR_of2 Tryd.func78 rfl rfl Tryd.ntmps78 (by simp) ?_
  intro a hN hD ha
  have h0 : get a 0 = .slice oa bs.length cap := ha 0 _ rfl
  clear ha
  refine wp_seq_k fun K hK => ?_; refine zac ?_; (repeat ((with_reducible refine zah ?_ ?_ ?_); (· simp [evb, pvb, rnb, kb, hN, dyb, sdb] <;> omega); (· kernel_rfl); try simp only [evb, pvb, rnb, kb, hN, seval])); refine zaa ?_; refine hK _ _ ?_; clear hK K
  refine wp_scope_jumps 0 (uvJ64 w 172 (rUvl 9 bs = none)) (fun _ _ => 0) rfl ?_ ?_
  rotate_left
  · rintro a w' ⟨hn, hN, hD, rfl, m, hm, hm0⟩
    refine wp_seq_k fun K hK => ?_; refine wp_skip ?_; refine hK _ _ ?_; clear hK K
    refine wp_seq_k fun K hK => ?_; refine zac ?_; (repeat ((with_reducible refine zah ?_ ?_ ?_); (· simp [evb, pvb, rnb, kb, hN, hm, dyb, sdb] <;> omega); (· kernel_rfl); try simp only [evb, pvb, rnb, kb, hN, seval, hm])); refine zaa ?_; refine hK _ _ ?_; clear hK K
    refine wp_ret ⟨hD, rfl, 0, m, ?_, uvR64_none hn hm0⟩
    simp only [evb, pvb, rnb, kb, hN, seval, hm]
    try rfl
  refine wp_seq_k fun K hK => ?_; refine zac ?_; (repeat ((with_reducible refine zah ?_ ?_ ?_); (· simp [evb, pvb, rnb, kb, hN, dyb, sdb] <;> omega); (· kernel_rfl); try simp only [evb, pvb, rnb, kb, hN, seval])); refine zaa ?_; refine hK _ _ ?_; clear hK K
  refine wp_seq_k fun K hK => ?_; refine zac ?_; (repeat ((with_reducible refine zah ?_ ?_ ?_); (· simp [evb, pvb, rnb, kb, hN, dyb, sdb] <;> omega); (· kernel_rfl); try simp only [evb, pvb, rnb, kb, hN, seval])); refine zaa ?_; refine hK _ _ ?_; clear hK K
  have lt := fun x : UInt8 => x.toNat_lt
  rcases bs with _ | ⟨b0, r0⟩
  · have d0 : decide ((([] : Bs).length : Int) < 1) = true := rfl
    refine wp_seq_k fun K hK => ?_; refine wp_seq_k fun K0 hK0 => ?_; refine zac ?_; (repeat ((with_reducible refine zah ?_ ?_ ?_); (· simp [evb, pvb, rnb, kb, hN, h0, d0, dyb, sdb] <;> omega); (· kernel_rfl); try simp only [evb, pvb, rnb, kb, hN, seval, h0, d0])); refine zaa ?_; refine hK0 _ _ ?_; try clear hK0 K0
    refine wp_cond_true (by simp only [evb, pvb, rnb, kb, hN, seval]) ?_
    exact wp_goto ⟨rfl, (by simp only [rUvl]), by simp only [zaf, hN], by simp only [zab, hD], rfl, 0, by simp only [evb, pvb, rnb, kb, hN, seval], by omega⟩
  obtain ⟨b, o, rfl, hx⟩ := hb.at_ (by simp)
  have p0 := hx 0 b0 rfl
  rw [Nat.add_zero] at p0
  have d0 : decide (((b0 :: r0).length : Int) < 1) = false := decide_eq_false (by simp only [List.length_cons]; omega)
  refine wp_seq_k fun K hK => ?_; refine wp_seq_k fun K0 hK0 => ?_; refine zac ?_; (repeat ((with_reducible refine zah ?_ ?_ ?_); (· simp [evb, pvb, rnb, kb, hN, h0, d0, dyb, sdb] <;> omega); (· kernel_rfl); try simp only [evb, pvb, rnb, kb, hN, seval, h0, d0])); refine zaa ?_; refine hK0 _ _ ?_; try clear hK0 K0
  refine wp_cond_false (by simp only [evb, pvb, rnb, kb, hN, seval]) ?_
  refine wp_skip ?_
  refine hK _ _ ?_
  clear hK K
  have z0 := lt b0
  refine wp_seq_k fun K hK => ?_; refine zac ?_; (repeat ((with_reducible refine zah ?_ ?_ ?_); (· simp [evb, pvb, rnb, kb, hN, h0, p0, fo, and7, u64_sm (show b0.toNat % 128 < 256 by omega), dyb, sdb] <;> omega); (· kernel_rfl); try simp only [evb, pvb, rnb, kb, hN, seval, h0, p0, fo, and7, u64_sm (show b0.toNat % 128 < 256 by omega)])); refine zaa ?_; refine hK _ _ ?_; clear hK K
  by_cases c0 : b0.toNat < 128
  · refine wp_seq_k fun K hK => ?_; refine wp_seq_k fun K0 hK0 => ?_; refine zac ?_; (repeat ((with_reducible refine zah ?_ ?_ ?_); (· simp [evb, pvb, rnb, kb, hN, h0, p0, fo, and8, if_pos c0, dyb, sdb] <;> omega); (· kernel_rfl); try simp only [evb, pvb, rnb, kb, hN, seval, h0, p0, fo, and8, if_pos c0])); refine zaa ?_; refine hK0 _ _ ?_; try clear hK0 K0
    refine wp_cond_true (by simp only [evb, pvb, rnb, kb, hN, seval]) ?_
    refine wp_seq_k fun K hK => ?_; refine zac ?_; (repeat ((with_reducible refine zah ?_ ?_ ?_); (· simp [evb, pvb, rnb, kb, hN, dyb, sdb] <;> omega); (· kernel_rfl); try simp only [evb, pvb, rnb, kb, hN, seval])); refine zaa ?_; refine hK _ _ ?_; clear hK K
    refine wp_ret ⟨by simp only [zab, hD], rfl, b0.toNat % 128, 1, ?_, uvR64_some (bs := b0 :: r0) (r := r0) (y := b0.toNat) ?_ (by omega) (by decide) (by simp only [List.length_cons]; omega) rfl⟩
    · simp only [evb, pvb, rnb, kb, hN, seval]
    · simp only [rUvl, if_pos c0, Option.map_some]
  have e0 : (if b0.toNat < 128 then (0 : Int) else 128) = 128 := if_neg c0
  refine wp_seq_k fun K hK => ?_; refine wp_seq_k fun K0 hK0 => ?_; refine zac ?_; (repeat ((with_reducible refine zah ?_ ?_ ?_); (· simp [evb, pvb, rnb, kb, hN, h0, p0, fo, and8, e0, dyb, sdb] <;> omega); (· kernel_rfl); try simp only [evb, pvb, rnb, kb, hN, seval, h0, p0, fo, and8, e0])); refine zaa ?_; refine hK0 _ _ ?_; try clear hK0 K0
  refine wp_cond_false (by simp only [evb, pvb, rnb, kb, hN, seval]) ?_
  refine wp_seq_k fun K1 hK1 => ?_; refine zac ?_
  rcases r0 with _ | ⟨b1, r1⟩
  · have d1 : decide (((b0 :: [] : Bs).length : Int) < 2) = true := rfl
    (repeat ((with_reducible refine zah ?_ ?_ ?_); (· simp [evb, pvb, rnb, kb, hN, h0, d1, dyb, sdb] <;> omega); (· kernel_rfl); try simp only [evb, pvb, rnb, kb, hN, seval, h0, d1])); refine zaa ?_; refine hK1 _ _ ?_; try clear hK1 K1
    refine wp_cond_true (by simp only [evb, pvb, rnb, kb, hN, seval]) ?_
    exact wp_goto ⟨rfl, (by simp only [rUvl, if_neg c0, Option.map_none]), by simp only [zaf, hN], by simp only [zab, hD], rfl, 0, by simp only [evb, pvb, rnb, kb, hN, seval], by omega⟩
  have d1 : decide (((b0 :: b1 :: r1 : Bs).length : Int) < 2) = false := decide_eq_false (by simp only [List.length_cons]; omega)
  (repeat ((with_reducible refine zah ?_ ?_ ?_); (· simp [evb, pvb, rnb, kb, hN, h0, d1, dyb, sdb] <;> omega); (· kernel_rfl); try simp only [evb, pvb, rnb, kb, hN, seval, h0, d1])); refine zaa ?_; refine hK1 _ _ ?_; try clear hK1 K1
  refine wp_cond_false (by simp only [evb, pvb, rnb, kb, hN, seval]) ?_
  refine wp_skip ?_
  refine hK _ _ ?_
  clear hK K
  have p1 := hx 1 b1 rfl
  have z1 := lt b1
  have o1 : orI .u64 ((b0.toNat % 128 : Nat) : Int) (shlI .u64 7 ((b1.toNat % 128 : Nat) : Int)) = ((2 ^ 7 * (b1.toNat % 128) + (b0.toNat % 128) : Nat) : Int) := by
    rw [zaB (k := .u64) rfl (c := 7) (y := b1.toNat % 128) (by decide) (by show _ < 18446744073709551616; omega)]
    exact zaL (k := .u64) rfl (j := 7) (y := b1.toNat % 128) (x := b0.toNat % 128) (by show _ < 128; omega) (by show _ < 18446744073709551616; omega)
  refine wp_seq_k fun K hK => ?_; refine zac ?_; (repeat ((with_reducible refine zah ?_ ?_ ?_); (· simp [evb, pvb, rnb, kb, hN, h0, p1, fo, and7, u64_sm (show b1.toNat % 128 < 256 by omega), o1, dyb, sdb] <;> omega); (· kernel_rfl); try simp only [evb, pvb, rnb, kb, hN, seval, h0, p1, fo, and7, u64_sm (show b1.toNat % 128 < 256 by omega), o1])); refine zaa ?_; refine hK _ _ ?_; clear hK K
  by_cases c1 : b1.toNat < 128
  · refine wp_seq_k fun K hK => ?_; refine wp_seq_k fun K0 hK0 => ?_; refine zac ?_; (repeat ((with_reducible refine zah ?_ ?_ ?_); (· simp [evb, pvb, rnb, kb, hN, h0, p1, fo, and8, if_pos c1, dyb, sdb] <;> omega); (· kernel_rfl); try simp only [evb, pvb, rnb, kb, hN, seval, h0, p1, fo, and8, if_pos c1])); refine zaa ?_; refine hK0 _ _ ?_; try clear hK0 K0
    refine wp_cond_true (by simp only [evb, pvb, rnb, kb, hN, seval]) ?_
    refine wp_seq_k fun K hK => ?_; refine zac ?_; (repeat ((with_reducible refine zah ?_ ?_ ?_); (· simp [evb, pvb, rnb, kb, hN, dyb, sdb] <;> omega); (· kernel_rfl); try simp only [evb, pvb, rnb, kb, hN, seval])); refine zaa ?_; refine hK _ _ ?_; clear hK K
    refine wp_ret ⟨by simp only [zab, hD], rfl, 2 ^ 7 * (b1.toNat % 128) + (b0.toNat % 128), 2, ?_, uvR64_some (bs := b0 :: b1 :: r1) (r := r1) (y := b0.toNat % 128 + 128 * (b1.toNat)) ?_ (by omega) (by decide) (by simp only [List.length_cons]; omega) rfl⟩
    · simp only [evb, pvb, rnb, kb, hN, seval]
    · simp only [rUvl, if_neg c0, if_pos c1, Option.map_some]
  have e1 : (if b1.toNat < 128 then (0 : Int) else 128) = 128 := if_neg c1
  refine wp_seq_k fun K hK => ?_; refine wp_seq_k fun K0 hK0 => ?_; refine zac ?_; (repeat ((with_reducible refine zah ?_ ?_ ?_); (· simp [evb, pvb, rnb, kb, hN, h0, p1, fo, and8, e1, dyb, sdb] <;> omega); (· kernel_rfl); try simp only [evb, pvb, rnb, kb, hN, seval, h0, p1, fo, and8, e1])); refine zaa ?_; refine hK0 _ _ ?_; try clear hK0 K0
  refine wp_cond_false (by simp only [evb, pvb, rnb, kb, hN, seval]) ?_
  refine wp_seq_k fun K1 hK1 => ?_; refine zac ?_
  rcases r1 with _ | ⟨b2, r2⟩
  · have d2 : decide (((b0 :: b1 :: [] : Bs).length : Int) < 3) = true := rfl
    (repeat ((with_reducible refine zah ?_ ?_ ?_); (· simp [evb, pvb, rnb, kb, hN, h0, d2, dyb, sdb] <;> omega); (· kernel_rfl); try simp only [evb, pvb, rnb, kb, hN, seval, h0, d2])); refine zaa ?_; refine hK1 _ _ ?_; try clear hK1 K1
    refine wp_cond_true (by simp only [evb, pvb, rnb, kb, hN, seval]) ?_
    exact wp_goto ⟨rfl, (by simp only [rUvl, if_neg c0, if_neg c1, Option.map_none]), by simp only [zaf, hN], by simp only [zab, hD], rfl, 0, by simp only [evb, pvb, rnb, kb, hN, seval], by omega⟩
  have d2 : decide (((b0 :: b1 :: b2 :: r2 : Bs).length : Int) < 3) = false := decide_eq_false (by simp only [List.length_cons]; omega)
  (repeat ((with_reducible refine zah ?_ ?_ ?_); (· simp [evb, pvb, rnb, kb, hN, h0, d2, dyb, sdb] <;> omega); (· kernel_rfl); try simp only [evb, pvb, rnb, kb, hN, seval, h0, d2])); refine zaa ?_; refine hK1 _ _ ?_; try clear hK1 K1
  refine wp_cond_false (by simp only [evb, pvb, rnb, kb, hN, seval]) ?_
  refine wp_skip ?_
  refine hK _ _ ?_
  clear hK K
  have p2 := hx 2 b2 rfl
  have z2 := lt b2
  have o2 : orI .u64 ((2 ^ 7 * (b1.toNat % 128) + (b0.toNat % 128) : Nat) : Int) (shlI .u64 14 ((b2.toNat % 128 : Nat) : Int)) = ((2 ^ 14 * (b2.toNat % 128) + (2 ^ 7 * (b1.toNat % 128) + (b0.toNat % 128)) : Nat) : Int) := by
    rw [zaB (k := .u64) rfl (c := 14) (y := b2.toNat % 128) (by decide) (by show _ < 18446744073709551616; omega)]
    exact zaL (k := .u64) rfl (j := 14) (y := b2.toNat % 128) (x := 2 ^ 7 * (b1.toNat % 128) + (b0.toNat % 128)) (by show _ < 16384; omega) (by show _ < 18446744073709551616; omega)
  refine wp_seq_k fun K hK => ?_; refine zac ?_; (repeat ((with_reducible refine zah ?_ ?_ ?_); (· simp [evb, pvb, rnb, kb, hN, h0, p2, fo, and7, u64_sm (show b2.toNat % 128 < 256 by omega), o2, dyb, sdb] <;> omega); (· kernel_rfl); try simp only [evb, pvb, rnb, kb, hN, seval, h0, p2, fo, and7, u64_sm (show b2.toNat % 128 < 256 by omega), o2])); refine zaa ?_; refine hK _ _ ?_; clear hK K
  by_cases c2 : b2.toNat < 128
  · refine wp_seq_k fun K hK => ?_; refine wp_seq_k fun K0 hK0 => ?_; refine zac ?_; (repeat ((with_reducible refine zah ?_ ?_ ?_); (· simp [evb, pvb, rnb, kb, hN, h0, p2, fo, and8, if_pos c2, dyb, sdb] <;> omega); (· kernel_rfl); try simp only [evb, pvb, rnb, kb, hN, seval, h0, p2, fo, and8, if_pos c2])); refine zaa ?_; refine hK0 _ _ ?_; try clear hK0 K0
    refine wp_cond_true (by simp only [evb, pvb, rnb, kb, hN, seval]) ?_
    refine wp_seq_k fun K hK => ?_; refine zac ?_; (repeat ((with_reducible refine zah ?_ ?_ ?_); (· simp [evb, pvb, rnb, kb, hN, dyb, sdb] <;> omega); (· kernel_rfl); try simp only [evb, pvb, rnb, kb, hN, seval])); refine zaa ?_; refine hK _ _ ?_; clear hK K
    refine wp_ret ⟨by simp only [zab, hD], rfl, 2 ^ 14 * (b2.toNat % 128) + (2 ^ 7 * (b1.toNat % 128) + (b0.toNat % 128)), 3, ?_, uvR64_some (bs := b0 :: b1 :: b2 :: r2) (r := r2) (y := b0.toNat % 128 + 128 * (b1.toNat % 128 + 128 * (b2.toNat))) ?_ (by omega) (by decide) (by simp only [List.length_cons]; omega) rfl⟩
    · simp only [evb, pvb, rnb, kb, hN, seval]
    · simp only [rUvl, if_neg c0, if_neg c1, if_pos c2, Option.map_some]
  have e2 : (if b2.toNat < 128 then (0 : Int) else 128) = 128 := if_neg c2
  refine wp_seq_k fun K hK => ?_; refine wp_seq_k fun K0 hK0 => ?_; refine zac ?_; (repeat ((with_reducible refine zah ?_ ?_ ?_); (· simp [evb, pvb, rnb, kb, hN, h0, p2, fo, and8, e2, dyb, sdb] <;> omega); (· kernel_rfl); try simp only [evb, pvb, rnb, kb, hN, seval, h0, p2, fo, and8, e2])); refine zaa ?_; refine hK0 _ _ ?_; try clear hK0 K0
  refine wp_cond_false (by simp only [evb, pvb, rnb, kb, hN, seval]) ?_
  refine wp_seq_k fun K1 hK1 => ?_; refine zac ?_
  rcases r2 with _ | ⟨b3, r3⟩
  · have d3 : decide (((b0 :: b1 :: b2 :: [] : Bs).length : Int) < 4) = true := rfl
    (repeat ((with_reducible refine zah ?_ ?_ ?_); (· simp [evb, pvb, rnb, kb, hN, h0, d3, dyb, sdb] <;> omega); (· kernel_rfl); try simp only [evb, pvb, rnb, kb, hN, seval, h0, d3])); refine zaa ?_; refine hK1 _ _ ?_; try clear hK1 K1
    refine wp_cond_true (by simp only [evb, pvb, rnb, kb, hN, seval]) ?_
    exact wp_goto ⟨rfl, (by simp only [rUvl, if_neg c0, if_neg c1, if_neg c2, Option.map_none]), by simp only [zaf, hN], by simp only [zab, hD], rfl, 0, by simp only [evb, pvb, rnb, kb, hN, seval], by omega⟩
  have d3 : decide (((b0 :: b1 :: b2 :: b3 :: r3 : Bs).length : Int) < 4) = false := decide_eq_false (by simp only [List.length_cons]; omega)
  (repeat ((with_reducible refine zah ?_ ?_ ?_); (· simp [evb, pvb, rnb, kb, hN, h0, d3, dyb, sdb] <;> omega); (· kernel_rfl); try simp only [evb, pvb, rnb, kb, hN, seval, h0, d3])); refine zaa ?_; refine hK1 _ _ ?_; try clear hK1 K1
  refine wp_cond_false (by simp only [evb, pvb, rnb, kb, hN, seval]) ?_
  refine wp_skip ?_
  refine hK _ _ ?_
  clear hK K
  have p3 := hx 3 b3 rfl
  have z3 := lt b3
  have o3 : orI .u64 ((2 ^ 14 * (b2.toNat % 128) + (2 ^ 7 * (b1.toNat % 128) + (b0.toNat % 128)) : Nat) : Int) (shlI .u64 21 ((b3.toNat % 128 : Nat) : Int)) = ((2 ^ 21 * (b3.toNat % 128) + (2 ^ 14 * (b2.toNat % 128) + (2 ^ 7 * (b1.toNat % 128) + (b0.toNat % 128))) : Nat) : Int) := by
    rw [zaB (k := .u64) rfl (c := 21) (y := b3.toNat % 128) (by decide) (by show _ < 18446744073709551616; omega)]
    exact zaL (k := .u64) rfl (j := 21) (y := b3.toNat % 128) (x := 2 ^ 14 * (b2.toNat % 128) + (2 ^ 7 * (b1.toNat % 128) + (b0.toNat % 128))) (by show _ < 2097152; omega) (by show _ < 18446744073709551616; omega)
  refine wp_seq_k fun K hK => ?_; refine zac ?_; (repeat ((with_reducible refine zah ?_ ?_ ?_); (· simp [evb, pvb, rnb, kb, hN, h0, p3, fo, and7, u64_sm (show b3.toNat % 128 < 256 by omega), o3, dyb, sdb] <;> omega); (· kernel_rfl); try simp only [evb, pvb, rnb, kb, hN, seval, h0, p3, fo, and7, u64_sm (show b3.toNat % 128 < 256 by omega), o3])); refine zaa ?_; refine hK _ _ ?_; clear hK K
  by_cases c3 : b3.toNat < 128
  · refine wp_seq_k fun K hK => ?_; refine wp_seq_k fun K0 hK0 => ?_; refine zac ?_; (repeat ((with_reducible refine zah ?_ ?_ ?_); (· simp [evb, pvb, rnb, kb, hN, h0, p3, fo, and8, if_pos c3, dyb, sdb] <;> omega); (· kernel_rfl); try simp only [evb, pvb, rnb, kb, hN, seval, h0, p3, fo, and8, if_pos c3])); refine zaa ?_; refine hK0 _ _ ?_; try clear hK0 K0
    refine wp_cond_true (by simp only [evb, pvb, rnb, kb, hN, seval]) ?_
    refine wp_seq_k fun K hK => ?_; refine zac ?_; (repeat ((with_reducible refine zah ?_ ?_ ?_); (· simp [evb, pvb, rnb, kb, hN, dyb, sdb] <;> omega); (· kernel_rfl); try simp only [evb, pvb, rnb, kb, hN, seval])); refine zaa ?_; refine hK _ _ ?_; clear hK K
    refine wp_ret ⟨by simp only [zab, hD], rfl, 2 ^ 21 * (b3.toNat % 128) + (2 ^ 14 * (b2.toNat % 128) + (2 ^ 7 * (b1.toNat % 128) + (b0.toNat % 128))), 4, ?_, uvR64_some (bs := b0 :: b1 :: b2 :: b3 :: r3) (r := r3) (y := b0.toNat % 128 + 128 * (b1.toNat % 128 + 128 * (b2.toNat % 128 + 128 * (b3.toNat)))) ?_ (by omega) (by decide) (by simp only [List.length_cons]; omega) rfl⟩
    · simp only [evb, pvb, rnb, kb, hN, seval]
    · simp only [rUvl, if_neg c0, if_neg c1, if_neg c2, if_pos c3, Option.map_some]
  have e3 : (if b3.toNat < 128 then (0 : Int) else 128) = 128 := if_neg c3
  refine wp_seq_k fun K hK => ?_; refine wp_seq_k fun K0 hK0 => ?_; refine zac ?_; (repeat ((with_reducible refine zah ?_ ?_ ?_); (· simp [evb, pvb, rnb, kb, hN, h0, p3, fo, and8, e3, dyb, sdb] <;> omega); (· kernel_rfl); try simp only [evb, pvb, rnb, kb, hN, seval, h0, p3, fo, and8, e3])); refine zaa ?_; refine hK0 _ _ ?_; try clear hK0 K0
  refine wp_cond_false (by simp only [evb, pvb, rnb, kb, hN, seval]) ?_
  refine wp_seq_k fun K1 hK1 => ?_; refine zac ?_
  rcases r3 with _ | ⟨b4, r4⟩
  · have d4 : decide (((b0 :: b1 :: b2 :: b3 :: [] : Bs).length : Int) < 5) = true := rfl
    (repeat ((with_reducible refine zah ?_ ?_ ?_); (· simp [evb, pvb, rnb, kb, hN, h0, d4, dyb, sdb] <;> omega); (· kernel_rfl); try simp only [evb, pvb, rnb, kb, hN, seval, h0, d4])); refine zaa ?_; refine hK1 _ _ ?_; try clear hK1 K1
    refine wp_cond_true (by simp only [evb, pvb, rnb, kb, hN, seval]) ?_
    exact wp_goto ⟨rfl, (by simp only [rUvl, if_neg c0, if_neg c1, if_neg c2, if_neg c3, Option.map_none]), by simp only [zaf, hN], by simp only [zab, hD], rfl, 0, by simp only [evb, pvb, rnb, kb, hN, seval], by omega⟩
  have d4 : decide (((b0 :: b1 :: b2 :: b3 :: b4 :: r4 : Bs).length : Int) < 5) = false := decide_eq_false (by simp only [List.length_cons]; omega)
  (repeat ((with_reducible refine zah ?_ ?_ ?_); (· simp [evb, pvb, rnb, kb, hN, h0, d4, dyb, sdb] <;> omega); (· kernel_rfl); try simp only [evb, pvb, rnb, kb, hN, seval, h0, d4])); refine zaa ?_; refine hK1 _ _ ?_; try clear hK1 K1
  refine wp_cond_false (by simp only [evb, pvb, rnb, kb, hN, seval]) ?_
  refine wp_skip ?_
  refine hK _ _ ?_
  clear hK K
  have p4 := hx 4 b4 rfl
  have z4 := lt b4
  have o4 : orI .u64 ((2 ^ 21 * (b3.toNat % 128) + (2 ^ 14 * (b2.toNat % 128) + (2 ^ 7 * (b1.toNat % 128) + (b0.toNat % 128))) : Nat) : Int) (shlI .u64 28 ((b4.toNat % 128 : Nat) : Int)) = ((2 ^ 28 * (b4.toNat % 128) + (2 ^ 21 * (b3.toNat % 128) + (2 ^ 14 * (b2.toNat % 128) + (2 ^ 7 * (b1.toNat % 128) + (b0.toNat % 128)))) : Nat) : Int) := by
    rw [zaB (k := .u64) rfl (c := 28) (y := b4.toNat % 128) (by decide) (by show _ < 18446744073709551616; omega)]
    exact zaL (k := .u64) rfl (j := 28) (y := b4.toNat % 128) (x := 2 ^ 21 * (b3.toNat % 128) + (2 ^ 14 * (b2.toNat % 128) + (2 ^ 7 * (b1.toNat % 128) + (b0.toNat % 128)))) (by show _ < 268435456; omega) (by show _ < 18446744073709551616; omega)
  refine wp_seq_k fun K hK => ?_; refine zac ?_; (repeat ((with_reducible refine zah ?_ ?_ ?_); (· simp [evb, pvb, rnb, kb, hN, h0, p4, fo, and7, u64_sm (show b4.toNat % 128 < 256 by omega), o4, dyb, sdb] <;> omega); (· kernel_rfl); try simp only [evb, pvb, rnb, kb, hN, seval, h0, p4, fo, and7, u64_sm (show b4.toNat % 128 < 256 by omega), o4])); refine zaa ?_; refine hK _ _ ?_; clear hK K
  by_cases c4 : b4.toNat < 128
  · refine wp_seq_k fun K hK => ?_; refine wp_seq_k fun K0 hK0 => ?_; refine zac ?_; (repeat ((with_reducible refine zah ?_ ?_ ?_); (· simp [evb, pvb, rnb, kb, hN, h0, p4, fo, and8, if_pos c4, dyb, sdb] <;> omega); (· kernel_rfl); try simp only [evb, pvb, rnb, kb, hN, seval, h0, p4, fo, and8, if_pos c4])); refine zaa ?_; refine hK0 _ _ ?_; try clear hK0 K0
    refine wp_cond_true (by simp only [evb, pvb, rnb, kb, hN, seval]) ?_
    refine wp_seq_k fun K hK => ?_; refine zac ?_; (repeat ((with_reducible refine zah ?_ ?_ ?_); (· simp [evb, pvb, rnb, kb, hN, dyb, sdb] <;> omega); (· kernel_rfl); try simp only [evb, pvb, rnb, kb, hN, seval])); refine zaa ?_; refine hK _ _ ?_; clear hK K
    refine wp_ret ⟨by simp only [zab, hD], rfl, 2 ^ 28 * (b4.toNat % 128) + (2 ^ 21 * (b3.toNat % 128) + (2 ^ 14 * (b2.toNat % 128) + (2 ^ 7 * (b1.toNat % 128) + (b0.toNat % 128)))), 5, ?_, uvR64_some (bs := b0 :: b1 :: b2 :: b3 :: b4 :: r4) (r := r4) (y := b0.toNat % 128 + 128 * (b1.toNat % 128 + 128 * (b2.toNat % 128 + 128 * (b3.toNat % 128 + 128 * (b4.toNat))))) ?_ (by omega) (by decide) (by simp only [List.length_cons]; omega) rfl⟩
    · simp only [evb, pvb, rnb, kb, hN, seval]
    · simp only [rUvl, if_neg c0, if_neg c1, if_neg c2, if_neg c3, if_pos c4, Option.map_some]
  have e4 : (if b4.toNat < 128 then (0 : Int) else 128) = 128 := if_neg c4
  refine wp_seq_k fun K hK => ?_; refine wp_seq_k fun K0 hK0 => ?_; refine zac ?_; (repeat ((with_reducible refine zah ?_ ?_ ?_); (· simp [evb, pvb, rnb, kb, hN, h0, p4, fo, and8, e4, dyb, sdb] <;> omega); (· kernel_rfl); try simp only [evb, pvb, rnb, kb, hN, seval, h0, p4, fo, and8, e4])); refine zaa ?_; refine hK0 _ _ ?_; try clear hK0 K0
  refine wp_cond_false (by simp only [evb, pvb, rnb, kb, hN, seval]) ?_
  refine wp_seq_k fun K1 hK1 => ?_; refine zac ?_
  rcases r4 with _ | ⟨b5, r5⟩
  · have d5 : decide (((b0 :: b1 :: b2 :: b3 :: b4 :: [] : Bs).length : Int) < 6) = true := rfl
    (repeat ((with_reducible refine zah ?_ ?_ ?_); (· simp [evb, pvb, rnb, kb, hN, h0, d5, dyb, sdb] <;> omega); (· kernel_rfl); try simp only [evb, pvb, rnb, kb, hN, seval, h0, d5])); refine zaa ?_; refine hK1 _ _ ?_; try clear hK1 K1
    refine wp_cond_true (by simp only [evb, pvb, rnb, kb, hN, seval]) ?_
    exact wp_goto ⟨rfl, (by simp only [rUvl, if_neg c0, if_neg c1, if_neg c2, if_neg c3, if_neg c4, Option.map_none]), by simp only [zaf, hN], by simp only [zab, hD], rfl, 0, by simp only [evb, pvb, rnb, kb, hN, seval], by omega⟩
  have d5 : decide (((b0 :: b1 :: b2 :: b3 :: b4 :: b5 :: r5 : Bs).length : Int) < 6) = false := decide_eq_false (by simp only [List.length_cons]; omega)
  (repeat ((with_reducible refine zah ?_ ?_ ?_); (· simp [evb, pvb, rnb, kb, hN, h0, d5, dyb, sdb] <;> omega); (· kernel_rfl); try simp only [evb, pvb, rnb, kb, hN, seval, h0, d5])); refine zaa ?_; refine hK1 _ _ ?_; try clear hK1 K1
  refine wp_cond_false (by simp only [evb, pvb, rnb, kb, hN, seval]) ?_
  refine wp_skip ?_
  refine hK _ _ ?_
  clear hK K
  have p5 := hx 5 b5 rfl
  have z5 := lt b5
  have o5 : orI .u64 ((2 ^ 28 * (b4.toNat % 128) + (2 ^ 21 * (b3.toNat % 128) + (2 ^ 14 * (b2.toNat % 128) + (2 ^ 7 * (b1.toNat % 128) + (b0.toNat % 128)))) : Nat) : Int) (shlI .u64 35 ((b5.toNat % 128 : Nat) : Int)) = ((2 ^ 35 * (b5.toNat % 128) + (2 ^ 28 * (b4.toNat % 128) + (2 ^ 21 * (b3.toNat % 128) + (2 ^ 14 * (b2.toNat % 128) + (2 ^ 7 * (b1.toNat % 128) + (b0.toNat % 128))))) : Nat) : Int) := by
    rw [zaB (k := .u64) rfl (c := 35) (y := b5.toNat % 128) (by decide) (by show _ < 18446744073709551616; omega)]
    exact zaL (k := .u64) rfl (j := 35) (y := b5.toNat % 128) (x := 2 ^ 28 * (b4.toNat % 128) + (2 ^ 21 * (b3.toNat % 128) + (2 ^ 14 * (b2.toNat % 128) + (2 ^ 7 * (b1.toNat % 128) + (b0.toNat % 128))))) (by show _ < 34359738368; omega) (by show _ < 18446744073709551616; omega)
  refine wp_seq_k fun K hK => ?_; refine zac ?_; (repeat ((with_reducible refine zah ?_ ?_ ?_); (· simp [evb, pvb, rnb, kb, hN, h0, p5, fo, and7, u64_sm (show b5.toNat % 128 < 256 by omega), o5, dyb, sdb] <;> omega); (· kernel_rfl); try simp only [evb, pvb, rnb, kb, hN, seval, h0, p5, fo, and7, u64_sm (show b5.toNat % 128 < 256 by omega), o5])); refine zaa ?_; refine hK _ _ ?_; clear hK K
  by_cases c5 : b5.toNat < 128
  · refine wp_seq_k fun K hK => ?_; refine wp_seq_k fun K0 hK0 => ?_; refine zac ?_; (repeat ((with_reducible refine zah ?_ ?_ ?_); (· simp [evb, pvb, rnb, kb, hN, h0, p5, fo, and8, if_pos c5, dyb, sdb] <;> omega); (· kernel_rfl); try simp only [evb, pvb, rnb, kb, hN, seval, h0, p5, fo, and8, if_pos c5])); refine zaa ?_; refine hK0 _ _ ?_; try clear hK0 K0
    refine wp_cond_true (by simp only [evb, pvb, rnb, kb, hN, seval]) ?_
    refine wp_seq_k fun K hK => ?_; refine zac ?_; (repeat ((with_reducible refine zah ?_ ?_ ?_); (· simp [evb, pvb, rnb, kb, hN, dyb, sdb] <;> omega); (· kernel_rfl); try simp only [evb, pvb, rnb, kb, hN, seval])); refine zaa ?_; refine hK _ _ ?_; clear hK K
    refine wp_ret ⟨by simp only [zab, hD], rfl, 2 ^ 35 * (b5.toNat % 128) + (2 ^ 28 * (b4.toNat % 128) + (2 ^ 21 * (b3.toNat % 128) + (2 ^ 14 * (b2.toNat % 128) + (2 ^ 7 * (b1.toNat % 128) + (b0.toNat % 128))))), 6, ?_, uvR64_some (bs := b0 :: b1 :: b2 :: b3 :: b4 :: b5 :: r5) (r := r5) (y := b0.toNat % 128 + 128 * (b1.toNat % 128 + 128 * (b2.toNat % 128 + 128 * (b3.toNat % 128 + 128 * (b4.toNat % 128 + 128 * (b5.toNat)))))) ?_ (by omega) (by decide) (by simp only [List.length_cons]; omega) rfl⟩
    · simp only [evb, pvb, rnb, kb, hN, seval]
    · simp only [rUvl, if_neg c0, if_neg c1, if_neg c2, if_neg c3, if_neg c4, if_pos c5, Option.map_some]
  have e5 : (if b5.toNat < 128 then (0 : Int) else 128) = 128 := if_neg c5
  refine wp_seq_k fun K hK => ?_; refine wp_seq_k fun K0 hK0 => ?_; refine zac ?_; (repeat ((with_reducible refine zah ?_ ?_ ?_); (· simp [evb, pvb, rnb, kb, hN, h0, p5, fo, and8, e5, dyb, sdb] <;> omega); (· kernel_rfl); try simp only [evb, pvb, rnb, kb, hN, seval, h0, p5, fo, and8, e5])); refine zaa ?_; refine hK0 _ _ ?_; try clear hK0 K0
  refine wp_cond_false (by simp only [evb, pvb, rnb, kb, hN, seval]) ?_
  refine wp_seq_k fun K1 hK1 => ?_; refine zac ?_
  rcases r5 with _ | ⟨b6, r6⟩
  · have d6 : decide (((b0 :: b1 :: b2 :: b3 :: b4 :: b5 :: [] : Bs).length : Int) < 7) = true := rfl
    (repeat ((with_reducible refine zah ?_ ?_ ?_); (· simp [evb, pvb, rnb, kb, hN, h0, d6, dyb, sdb] <;> omega); (· kernel_rfl); try simp only [evb, pvb, rnb, kb, hN, seval, h0, d6])); refine zaa ?_; refine hK1 _ _ ?_; try clear hK1 K1
    refine wp_cond_true (by simp only [evb, pvb, rnb, kb, hN, seval]) ?_
    exact wp_goto ⟨rfl, (by simp only [rUvl, if_neg c0, if_neg c1, if_neg c2, if_neg c3, if_neg c4, if_neg c5, Option.map_none]), by simp only [zaf, hN], by simp only [zab, hD], rfl, 0, by simp only [evb, pvb, rnb, kb, hN, seval], by omega⟩
  have d6 : decide (((b0 :: b1 :: b2 :: b3 :: b4 :: b5 :: b6 :: r6 : Bs).length : Int) < 7) = false := decide_eq_false (by simp only [List.length_cons]; omega)
  (repeat ((with_reducible refine zah ?_ ?_ ?_); (· simp [evb, pvb, rnb, kb, hN, h0, d6, dyb, sdb] <;> omega); (· kernel_rfl); try simp only [evb, pvb, rnb, kb, hN, seval, h0, d6])); refine zaa ?_; refine hK1 _ _ ?_; try clear hK1 K1
  refine wp_cond_false (by simp only [evb, pvb, rnb, kb, hN, seval]) ?_
  refine wp_skip ?_
  refine hK _ _ ?_
  clear hK K
  have p6 := hx 6 b6 rfl
  have z6 := lt b6
  have o6 : orI .u64 ((2 ^ 35 * (b5.toNat % 128) + (2 ^ 28 * (b4.toNat % 128) + (2 ^ 21 * (b3.toNat % 128) + (2 ^ 14 * (b2.toNat % 128) + (2 ^ 7 * (b1.toNat % 128) + (b0.toNat % 128))))) : Nat) : Int) (shlI .u64 42 ((b6.toNat % 128 : Nat) : Int)) = ((2 ^ 42 * (b6.toNat % 128) + (2 ^ 35 * (b5.toNat % 128) + (2 ^ 28 * (b4.toNat % 128) + (2 ^ 21 * (b3.toNat % 128) + (2 ^ 14 * (b2.toNat % 128) + (2 ^ 7 * (b1.toNat % 128) + (b0.toNat % 128)))))) : Nat) : Int) := by
    rw [zaB (k := .u64) rfl (c := 42) (y := b6.toNat % 128) (by decide) (by show _ < 18446744073709551616; omega)]
    exact zaL (k := .u64) rfl (j := 42) (y := b6.toNat % 128) (x := 2 ^ 35 * (b5.toNat % 128) + (2 ^ 28 * (b4.toNat % 128) + (2 ^ 21 * (b3.toNat % 128) + (2 ^ 14 * (b2.toNat % 128) + (2 ^ 7 * (b1.toNat % 128) + (b0.toNat % 128)))))) (by show _ < 4398046511104; omega) (by show _ < 18446744073709551616; omega)
  refine wp_seq_k fun K hK => ?_; refine zac ?_; (repeat ((with_reducible refine zah ?_ ?_ ?_); (· simp [evb, pvb, rnb, kb, hN, h0, p6, fo, and7, u64_sm (show b6.toNat % 128 < 256 by omega), o6, dyb, sdb] <;> omega); (· kernel_rfl); try simp only [evb, pvb, rnb, kb, hN, seval, h0, p6, fo, and7, u64_sm (show b6.toNat % 128 < 256 by omega), o6])); refine zaa ?_; refine hK _ _ ?_; clear hK K
  by_cases c6 : b6.toNat < 128
  · refine wp_seq_k fun K hK => ?_; refine wp_seq_k fun K0 hK0 => ?_; refine zac ?_; (repeat ((with_reducible refine zah ?_ ?_ ?_); (· simp [evb, pvb, rnb, kb, hN, h0, p6, fo, and8, if_pos c6, dyb, sdb] <;> omega); (· kernel_rfl); try simp only [evb, pvb, rnb, kb, hN, seval, h0, p6, fo, and8, if_pos c6])); refine zaa ?_; refine hK0 _ _ ?_; try clear hK0 K0
    refine wp_cond_true (by simp only [evb, pvb, rnb, kb, hN, seval]) ?_
    refine wp_seq_k fun K hK => ?_; refine zac ?_; (repeat ((with_reducible refine zah ?_ ?_ ?_); (· simp [evb, pvb, rnb, kb, hN, dyb, sdb] <;> omega); (· kernel_rfl); try simp only [evb, pvb, rnb, kb, hN, seval])); refine zaa ?_; refine hK _ _ ?_; clear hK K
    refine wp_ret ⟨by simp only [zab, hD], rfl, 2 ^ 42 * (b6.toNat % 128) + (2 ^ 35 * (b5.toNat % 128) + (2 ^ 28 * (b4.toNat % 128) + (2 ^ 21 * (b3.toNat % 128) + (2 ^ 14 * (b2.toNat % 128) + (2 ^ 7 * (b1.toNat % 128) + (b0.toNat % 128)))))), 7, ?_, uvR64_some (bs := b0 :: b1 :: b2 :: b3 :: b4 :: b5 :: b6 :: r6) (r := r6) (y := b0.toNat % 128 + 128 * (b1.toNat % 128 + 128 * (b2.toNat % 128 + 128 * (b3.toNat % 128 + 128 * (b4.toNat % 128 + 128 * (b5.toNat % 128 + 128 * (b6.toNat))))))) ?_ (by omega) (by decide) (by simp only [List.length_cons]; omega) rfl⟩
    · simp only [evb, pvb, rnb, kb, hN, seval]
    · simp only [rUvl, if_neg c0, if_neg c1, if_neg c2, if_neg c3, if_neg c4, if_neg c5, if_pos c6, Option.map_some]
  have e6 : (if b6.toNat < 128 then (0 : Int) else 128) = 128 := if_neg c6
  refine wp_seq_k fun K hK => ?_; refine wp_seq_k fun K0 hK0 => ?_; refine zac ?_; (repeat ((with_reducible refine zah ?_ ?_ ?_); (· simp [evb, pvb, rnb, kb, hN, h0, p6, fo, and8, e6, dyb, sdb] <;> omega); (· kernel_rfl); try simp only [evb, pvb, rnb, kb, hN, seval, h0, p6, fo, and8, e6])); refine zaa ?_; refine hK0 _ _ ?_; try clear hK0 K0
  refine wp_cond_false (by simp only [evb, pvb, rnb, kb, hN, seval]) ?_
  refine wp_seq_k fun K1 hK1 => ?_; refine zac ?_
  rcases r6 with _ | ⟨b7, r7⟩
  · have d7 : decide (((b0 :: b1 :: b2 :: b3 :: b4 :: b5 :: b6 :: [] : Bs).length : Int) < 8) = true := rfl
    (repeat ((with_reducible refine zah ?_ ?_ ?_); (· simp [evb, pvb, rnb, kb, hN, h0, d7, dyb, sdb] <;> omega); (· kernel_rfl); try simp only [evb, pvb, rnb, kb, hN, seval, h0, d7])); refine zaa ?_; refine hK1 _ _ ?_; try clear hK1 K1
    refine wp_cond_true (by simp only [evb, pvb, rnb, kb, hN, seval]) ?_
    exact wp_goto ⟨rfl, (by simp only [rUvl, if_neg c0, if_neg c1, if_neg c2, if_neg c3, if_neg c4, if_neg c5, if_neg c6, Option.map_none]), by simp only [zaf, hN], by simp only [zab, hD], rfl, 0, by simp only [evb, pvb, rnb, kb, hN, seval], by omega⟩
  have d7 : decide (((b0 :: b1 :: b2 :: b3 :: b4 :: b5 :: b6 :: b7 :: r7 : Bs).length : Int) < 8) = false := decide_eq_false (by simp only [List.length_cons]; omega)
  (repeat ((with_reducible refine zah ?_ ?_ ?_); (· simp [evb, pvb, rnb, kb, hN, h0, d7, dyb, sdb] <;> omega); (· kernel_rfl); try simp only [evb, pvb, rnb, kb, hN, seval, h0, d7])); refine zaa ?_; refine hK1 _ _ ?_; try clear hK1 K1
  refine wp_cond_false (by simp only [evb, pvb, rnb, kb, hN, seval]) ?_
  refine wp_skip ?_
  refine hK _ _ ?_
  clear hK K
  have p7 := hx 7 b7 rfl
  have z7 := lt b7
  have o7 : orI .u64 ((2 ^ 42 * (b6.toNat % 128) + (2 ^ 35 * (b5.toNat % 128) + (2 ^ 28 * (b4.toNat % 128) + (2 ^ 21 * (b3.toNat % 128) + (2 ^ 14 * (b2.toNat % 128) + (2 ^ 7 * (b1.toNat % 128) + (b0.toNat % 128)))))) : Nat) : Int) (shlI .u64 49 ((b7.toNat % 128 : Nat) : Int)) = ((2 ^ 49 * (b7.toNat % 128) + (2 ^ 42 * (b6.toNat % 128) + (2 ^ 35 * (b5.toNat % 128) + (2 ^ 28 * (b4.toNat % 128) + (2 ^ 21 * (b3.toNat % 128) + (2 ^ 14 * (b2.toNat % 128) + (2 ^ 7 * (b1.toNat % 128) + (b0.toNat % 128))))))) : Nat) : Int) := by
    rw [zaB (k := .u64) rfl (c := 49) (y := b7.toNat % 128) (by decide) (by show _ < 18446744073709551616; omega)]
    exact zaL (k := .u64) rfl (j := 49) (y := b7.toNat % 128) (x := 2 ^ 42 * (b6.toNat % 128) + (2 ^ 35 * (b5.toNat % 128) + (2 ^ 28 * (b4.toNat % 128) + (2 ^ 21 * (b3.toNat % 128) + (2 ^ 14 * (b2.toNat % 128) + (2 ^ 7 * (b1.toNat % 128) + (b0.toNat % 128))))))) (by show _ < 562949953421312; omega) (by show _ < 18446744073709551616; omega)
  refine wp_seq_k fun K hK => ?_; refine zac ?_; (repeat ((with_reducible refine zah ?_ ?_ ?_); (· simp [evb, pvb, rnb, kb, hN, h0, p7, fo, and7, u64_sm (show b7.toNat % 128 < 256 by omega), o7, dyb, sdb] <;> omega); (· kernel_rfl); try simp only [evb, pvb, rnb, kb, hN, seval, h0, p7, fo, and7, u64_sm (show b7.toNat % 128 < 256 by omega), o7])); refine zaa ?_; refine hK _ _ ?_; clear hK K
  by_cases c7 : b7.toNat < 128
  · refine wp_seq_k fun K hK => ?_; refine wp_seq_k fun K0 hK0 => ?_; refine zac ?_; (repeat ((with_reducible refine zah ?_ ?_ ?_); (· simp [evb, pvb, rnb, kb, hN, h0, p7, fo, and8, if_pos c7, dyb, sdb] <;> omega); (· kernel_rfl); try simp only [evb, pvb, rnb, kb, hN, seval, h0, p7, fo, and8, if_pos c7])); refine zaa ?_; refine hK0 _ _ ?_; try clear hK0 K0
    refine wp_cond_true (by simp only [evb, pvb, rnb, kb, hN, seval]) ?_
    refine wp_seq_k fun K hK => ?_; refine zac ?_; (repeat ((with_reducible refine zah ?_ ?_ ?_); (· simp [evb, pvb, rnb, kb, hN, dyb, sdb] <;> omega); (· kernel_rfl); try simp only [evb, pvb, rnb, kb, hN, seval])); refine zaa ?_; refine hK _ _ ?_; clear hK K
    refine wp_ret ⟨by simp only [zab, hD], rfl, 2 ^ 49 * (b7.toNat % 128) + (2 ^ 42 * (b6.toNat % 128) + (2 ^ 35 * (b5.toNat % 128) + (2 ^ 28 * (b4.toNat % 128) + (2 ^ 21 * (b3.toNat % 128) + (2 ^ 14 * (b2.toNat % 128) + (2 ^ 7 * (b1.toNat % 128) + (b0.toNat % 128))))))), 8, ?_, uvR64_some (bs := b0 :: b1 :: b2 :: b3 :: b4 :: b5 :: b6 :: b7 :: r7) (r := r7) (y := b0.toNat % 128 + 128 * (b1.toNat % 128 + 128 * (b2.toNat % 128 + 128 * (b3.toNat % 128 + 128 * (b4.toNat % 128 + 128 * (b5.toNat % 128 + 128 * (b6.toNat % 128 + 128 * (b7.toNat)))))))) ?_ (by omega) (by decide) (by simp only [List.length_cons]; omega) rfl⟩
    · simp only [evb, pvb, rnb, kb, hN, seval]
    · simp only [rUvl, if_neg c0, if_neg c1, if_neg c2, if_neg c3, if_neg c4, if_neg c5, if_neg c6, if_pos c7, Option.map_some]
  have e7 : (if b7.toNat < 128 then (0 : Int) else 128) = 128 := if_neg c7
  refine wp_seq_k fun K hK => ?_; refine wp_seq_k fun K0 hK0 => ?_; refine zac ?_; (repeat ((with_reducible refine zah ?_ ?_ ?_); (· simp [evb, pvb, rnb, kb, hN, h0, p7, fo, and8, e7, dyb, sdb] <;> omega); (· kernel_rfl); try simp only [evb, pvb, rnb, kb, hN, seval, h0, p7, fo, and8, e7])); refine zaa ?_; refine hK0 _ _ ?_; try clear hK0 K0
  refine wp_cond_false (by simp only [evb, pvb, rnb, kb, hN, seval]) ?_
  refine wp_seq_k fun K1 hK1 => ?_; refine zac ?_
  rcases r7 with _ | ⟨b8, r8⟩
  · have d8 : decide (((b0 :: b1 :: b2 :: b3 :: b4 :: b5 :: b6 :: b7 :: [] : Bs).length : Int) < 9) = true := rfl
    (repeat ((with_reducible refine zah ?_ ?_ ?_); (· simp [evb, pvb, rnb, kb, hN, h0, d8, dyb, sdb] <;> omega); (· kernel_rfl); try simp only [evb, pvb, rnb, kb, hN, seval, h0, d8])); refine zaa ?_; refine hK1 _ _ ?_; try clear hK1 K1
    refine wp_cond_true (by simp only [evb, pvb, rnb, kb, hN, seval]) ?_
    exact wp_goto ⟨rfl, (by simp only [rUvl, if_neg c0, if_neg c1, if_neg c2, if_neg c3, if_neg c4, if_neg c5, if_neg c6, if_neg c7, Option.map_none]), by simp only [zaf, hN], by simp only [zab, hD], rfl, 0, by simp only [evb, pvb, rnb, kb, hN, seval], by omega⟩
  have d8 : decide (((b0 :: b1 :: b2 :: b3 :: b4 :: b5 :: b6 :: b7 :: b8 :: r8 : Bs).length : Int) < 9) = false := decide_eq_false (by simp only [List.length_cons]; omega)
  (repeat ((with_reducible refine zah ?_ ?_ ?_); (· simp [evb, pvb, rnb, kb, hN, h0, d8, dyb, sdb] <;> omega); (· kernel_rfl); try simp only [evb, pvb, rnb, kb, hN, seval, h0, d8])); refine zaa ?_; refine hK1 _ _ ?_; try clear hK1 K1
  refine wp_cond_false (by simp only [evb, pvb, rnb, kb, hN, seval]) ?_
  refine wp_skip ?_
  refine hK _ _ ?_
  clear hK K
  have p8 := hx 8 b8 rfl
  have z8 := lt b8
  have o8 : orI .u64 ((2 ^ 49 * (b7.toNat % 128) + (2 ^ 42 * (b6.toNat % 128) + (2 ^ 35 * (b5.toNat % 128) + (2 ^ 28 * (b4.toNat % 128) + (2 ^ 21 * (b3.toNat % 128) + (2 ^ 14 * (b2.toNat % 128) + (2 ^ 7 * (b1.toNat % 128) + (b0.toNat % 128))))))) : Nat) : Int) (shlI .u64 56 ((b8.toNat % 128 : Nat) : Int)) = ((2 ^ 56 * (b8.toNat % 128) + (2 ^ 49 * (b7.toNat % 128) + (2 ^ 42 * (b6.toNat % 128) + (2 ^ 35 * (b5.toNat % 128) + (2 ^ 28 * (b4.toNat % 128) + (2 ^ 21 * (b3.toNat % 128) + (2 ^ 14 * (b2.toNat % 128) + (2 ^ 7 * (b1.toNat % 128) + (b0.toNat % 128)))))))) : Nat) : Int) := by
    rw [zaB (k := .u64) rfl (c := 56) (y := b8.toNat % 128) (by decide) (by show _ < 18446744073709551616; omega)]
    exact zaL (k := .u64) rfl (j := 56) (y := b8.toNat % 128) (x := 2 ^ 49 * (b7.toNat % 128) + (2 ^ 42 * (b6.toNat % 128) + (2 ^ 35 * (b5.toNat % 128) + (2 ^ 28 * (b4.toNat % 128) + (2 ^ 21 * (b3.toNat % 128) + (2 ^ 14 * (b2.toNat % 128) + (2 ^ 7 * (b1.toNat % 128) + (b0.toNat % 128)))))))) (by show _ < 72057594037927936; omega) (by show _ < 18446744073709551616; omega)
  refine wp_seq_k fun K hK => ?_; refine zac ?_; (repeat ((with_reducible refine zah ?_ ?_ ?_); (· simp [evb, pvb, rnb, kb, hN, h0, p8, fo, and7, u64_sm (show b8.toNat % 128 < 256 by omega), o8, dyb, sdb] <;> omega); (· kernel_rfl); try simp only [evb, pvb, rnb, kb, hN, seval, h0, p8, fo, and7, u64_sm (show b8.toNat % 128 < 256 by omega), o8])); refine zaa ?_; refine hK _ _ ?_; clear hK K
  by_cases c8 : b8.toNat < 128
  · refine wp_seq_k fun K hK => ?_; refine wp_seq_k fun K0 hK0 => ?_; refine zac ?_; (repeat ((with_reducible refine zah ?_ ?_ ?_); (· simp [evb, pvb, rnb, kb, hN, h0, p8, fo, and8, if_pos c8, dyb, sdb] <;> omega); (· kernel_rfl); try simp only [evb, pvb, rnb, kb, hN, seval, h0, p8, fo, and8, if_pos c8])); refine zaa ?_; refine hK0 _ _ ?_; try clear hK0 K0
    refine wp_cond_true (by simp only [evb, pvb, rnb, kb, hN, seval]) ?_
    refine wp_seq_k fun K hK => ?_; refine zac ?_; (repeat ((with_reducible refine zah ?_ ?_ ?_); (· simp [evb, pvb, rnb, kb, hN, dyb, sdb] <;> omega); (· kernel_rfl); try simp only [evb, pvb, rnb, kb, hN, seval])); refine zaa ?_; refine hK _ _ ?_; clear hK K
    refine wp_ret ⟨by simp only [zab, hD], rfl, 2 ^ 56 * (b8.toNat % 128) + (2 ^ 49 * (b7.toNat % 128) + (2 ^ 42 * (b6.toNat % 128) + (2 ^ 35 * (b5.toNat % 128) + (2 ^ 28 * (b4.toNat % 128) + (2 ^ 21 * (b3.toNat % 128) + (2 ^ 14 * (b2.toNat % 128) + (2 ^ 7 * (b1.toNat % 128) + (b0.toNat % 128)))))))), 9, ?_, uvR64_some (bs := b0 :: b1 :: b2 :: b3 :: b4 :: b5 :: b6 :: b7 :: b8 :: r8) (r := r8) (y := b0.toNat % 128 + 128 * (b1.toNat % 128 + 128 * (b2.toNat % 128 + 128 * (b3.toNat % 128 + 128 * (b4.toNat % 128 + 128 * (b5.toNat % 128 + 128 * (b6.toNat % 128 + 128 * (b7.toNat % 128 + 128 * (b8.toNat))))))))) ?_ (by omega) (by decide) (by simp only [List.length_cons]; omega) rfl⟩
    · simp only [evb, pvb, rnb, kb, hN, seval]
    · simp only [rUvl, if_neg c0, if_neg c1, if_neg c2, if_neg c3, if_neg c4, if_neg c5, if_neg c6, if_neg c7, if_pos c8, Option.map_some]
  have e8 : (if b8.toNat < 128 then (0 : Int) else 128) = 128 := if_neg c8
  refine wp_seq_k fun K hK => ?_; refine wp_seq_k fun K0 hK0 => ?_; refine zac ?_; (repeat ((with_reducible refine zah ?_ ?_ ?_); (· simp [evb, pvb, rnb, kb, hN, h0, p8, fo, and8, e8, dyb, sdb] <;> omega); (· kernel_rfl); try simp only [evb, pvb, rnb, kb, hN, seval, h0, p8, fo, and8, e8])); refine zaa ?_; refine hK0 _ _ ?_; try clear hK0 K0
  refine wp_cond_false (by simp only [evb, pvb, rnb, kb, hN, seval]) ?_
  refine wp_seq_k fun K1 hK1 => ?_; refine zac ?_
  rcases r8 with _ | ⟨b9, r9⟩
  · have d9 : decide (((b0 :: b1 :: b2 :: b3 :: b4 :: b5 :: b6 :: b7 :: b8 :: [] : Bs).length : Int) < 10) = true := rfl
    (repeat ((with_reducible refine zah ?_ ?_ ?_); (· simp [evb, pvb, rnb, kb, hN, h0, d9, dyb, sdb] <;> omega); (· kernel_rfl); try simp only [evb, pvb, rnb, kb, hN, seval, h0, d9])); refine zaa ?_; refine hK1 _ _ ?_; try clear hK1 K1
    refine wp_cond_true (by simp only [evb, pvb, rnb, kb, hN, seval]) ?_
    exact wp_goto ⟨rfl, (by simp only [rUvl, if_neg c0, if_neg c1, if_neg c2, if_neg c3, if_neg c4, if_neg c5, if_neg c6, if_neg c7, if_neg c8, Option.map_none]), by simp only [zaf, hN], by simp only [zab, hD], rfl, 0, by simp only [evb, pvb, rnb, kb, hN, seval], by omega⟩
  have d9 : decide (((b0 :: b1 :: b2 :: b3 :: b4 :: b5 :: b6 :: b7 :: b8 :: b9 :: r9 : Bs).length : Int) < 10) = false := decide_eq_false (by simp only [List.length_cons]; omega)
  (repeat ((with_reducible refine zah ?_ ?_ ?_); (· simp [evb, pvb, rnb, kb, hN, h0, d9, dyb, sdb] <;> omega); (· kernel_rfl); try simp only [evb, pvb, rnb, kb, hN, seval, h0, d9])); refine zaa ?_; refine hK1 _ _ ?_; try clear hK1 K1
  refine wp_cond_false (by simp only [evb, pvb, rnb, kb, hN, seval]) ?_
  refine wp_skip ?_
  refine hK _ _ ?_
  clear hK K
  have p9 := hx 9 b9 rfl
  have z9 := lt b9
  by_cases c9 : b9.toNat ≤ 1
  · have o9 : orI .u64 ((2 ^ 56 * (b8.toNat % 128) + (2 ^ 49 * (b7.toNat % 128) + (2 ^ 42 * (b6.toNat % 128) + (2 ^ 35 * (b5.toNat % 128) + (2 ^ 28 * (b4.toNat % 128) + (2 ^ 21 * (b3.toNat % 128) + (2 ^ 14 * (b2.toNat % 128) + (2 ^ 7 * (b1.toNat % 128) + (b0.toNat % 128)))))))) : Nat) : Int) (shlI .u64 63 ((b9.toNat : Nat) : Int)) = ((2 ^ 63 * b9.toNat + (2 ^ 56 * (b8.toNat % 128) + (2 ^ 49 * (b7.toNat % 128) + (2 ^ 42 * (b6.toNat % 128) + (2 ^ 35 * (b5.toNat % 128) + (2 ^ 28 * (b4.toNat % 128) + (2 ^ 21 * (b3.toNat % 128) + (2 ^ 14 * (b2.toNat % 128) + (2 ^ 7 * (b1.toNat % 128) + (b0.toNat % 128))))))))) : Nat) : Int) := by
      rw [zaB (k := .u64) rfl (c := 63) (y := b9.toNat) (by decide) (by show _ < 18446744073709551616; omega)]
      exact zaL (k := .u64) rfl (j := 63) (y := b9.toNat) (x := 2 ^ 56 * (b8.toNat % 128) + (2 ^ 49 * (b7.toNat % 128) + (2 ^ 42 * (b6.toNat % 128) + (2 ^ 35 * (b5.toNat % 128) + (2 ^ 28 * (b4.toNat % 128) + (2 ^ 21 * (b3.toNat % 128) + (2 ^ 14 * (b2.toNat % 128) + (2 ^ 7 * (b1.toNat % 128) + (b0.toNat % 128))))))))) (by show _ < 9223372036854775808; omega) (by show _ < 18446744073709551616; omega)
    refine wp_seq_k fun K hK => ?_; refine zac ?_; (repeat ((with_reducible refine zah ?_ ?_ ?_); (· simp [evb, pvb, rnb, kb, hN, h0, p9, fo, u64_u8, o9, dyb, sdb] <;> omega); (· kernel_rfl); try simp only [evb, pvb, rnb, kb, hN, seval, h0, p9, fo, u64_u8, o9])); refine zaa ?_; refine hK _ _ ?_; clear hK K
    have d10 : decide ((b9.toNat : Int) ≤ 1) = true := decide_eq_true (by omega)
    refine wp_seq_k fun K hK => ?_; refine wp_seq_k fun K0 hK0 => ?_; refine zac ?_; (repeat ((with_reducible refine zah ?_ ?_ ?_); (· simp [evb, pvb, rnb, kb, hN, h0, p9, fo, d10, dyb, sdb] <;> omega); (· kernel_rfl); try simp only [evb, pvb, rnb, kb, hN, seval, h0, p9, fo, d10])); refine zaa ?_; refine hK0 _ _ ?_; try clear hK0 K0
    refine wp_cond_true (by simp only [evb, pvb, rnb, kb, hN, seval]) ?_
    refine wp_seq_k fun K hK => ?_; refine zac ?_; (repeat ((with_reducible refine zah ?_ ?_ ?_); (· simp [evb, pvb, rnb, kb, hN, dyb, sdb] <;> omega); (· kernel_rfl); try simp only [evb, pvb, rnb, kb, hN, seval])); refine zaa ?_; refine hK _ _ ?_; clear hK K
    refine wp_ret ⟨by simp only [zab, hD], rfl, 2 ^ 63 * b9.toNat + (2 ^ 56 * (b8.toNat % 128) + (2 ^ 49 * (b7.toNat % 128) + (2 ^ 42 * (b6.toNat % 128) + (2 ^ 35 * (b5.toNat % 128) + (2 ^ 28 * (b4.toNat % 128) + (2 ^ 21 * (b3.toNat % 128) + (2 ^ 14 * (b2.toNat % 128) + (2 ^ 7 * (b1.toNat % 128) + (b0.toNat % 128))))))))), 10, ?_, uvR64_some (bs := b0 :: b1 :: b2 :: b3 :: b4 :: b5 :: b6 :: b7 :: b8 :: b9 :: r9) (r := r9) (y := b0.toNat % 128 + 128 * (b1.toNat % 128 + 128 * (b2.toNat % 128 + 128 * (b3.toNat % 128 + 128 * (b4.toNat % 128 + 128 * (b5.toNat % 128 + 128 * (b6.toNat % 128 + 128 * (b7.toNat % 128 + 128 * (b8.toNat % 128 + 128 * (b9.toNat)))))))))) ?_ (by omega) (by decide) (by simp only [List.length_cons]; omega) rfl⟩
    · simp only [evb, pvb, rnb, kb, hN, seval]
    · simp only [rUvl, if_neg c0, if_neg c1, if_neg c2, if_neg c3, if_neg c4, if_neg c5, if_neg c6, if_neg c7, if_neg c8, if_pos c9, Option.map_some]
  refine wp_seq_k fun K hK => ?_; refine zac ?_; (repeat ((with_reducible refine zah ?_ ?_ ?_); (· simp [evb, pvb, rnb, kb, hN, h0, p9, fo, u64_u8, dyb, sdb] <;> omega); (· kernel_rfl); try simp only [evb, pvb, rnb, kb, hN, seval, h0, p9, fo, u64_u8])); refine zaa ?_; refine hK _ _ ?_; clear hK K
  have d10 : decide ((b9.toNat : Int) ≤ 1) = false := decide_eq_false (by omega)
  refine wp_seq_k fun K hK => ?_; refine wp_seq_k fun K0 hK0 => ?_; refine zac ?_; (repeat ((with_reducible refine zah ?_ ?_ ?_); (· simp [evb, pvb, rnb, kb, hN, h0, p9, fo, d10, dyb, sdb] <;> omega); (· kernel_rfl); try simp only [evb, pvb, rnb, kb, hN, seval, h0, p9, fo, d10])); refine zaa ?_; refine hK0 _ _ ?_; try clear hK0 K0
  refine wp_cond_false (by simp only [evb, pvb, rnb, kb, hN, seval]) ?_
  refine wp_skip ?_
  refine hK _ _ ?_
  clear hK K
  refine wp_seq_k fun K hK => ?_; refine zac ?_; (repeat ((with_reducible refine zah ?_ ?_ ?_); (· simp [evb, pvb, rnb, kb, hN, dyb, sdb] <;> omega); (· kernel_rfl); try simp only [evb, pvb, rnb, kb, hN, seval])); refine zaa ?_; refine hK _ _ ?_; clear hK K
  refine wp_seq_k fun K hK => ?_
  refine wp_label ?_
  refine hK _ _ ?_
  clear hK K
  refine wp_seq_k fun K hK => ?_; refine zac ?_; (repeat ((with_reducible refine zah ?_ ?_ ?_); (· simp [evb, pvb, rnb, kb, hN, dyb, sdb] <;> omega); (· kernel_rfl); try simp only [evb, pvb, rnb, kb, hN, seval])); refine zaa ?_; refine hK _ _ ?_; clear hK K
  refine wp_ret ⟨by simp only [zab, hD], rfl, 0, -10, ?_, uvR64_none (by simp only [rUvl, if_neg c0, if_neg c1, if_neg c2, if_neg c3, if_neg c4, if_neg c5, if_neg c6, if_neg c7, if_neg c8, if_neg c9, Option.map_none]) (by omega)⟩
  simp only [evb, pvb, rnb, kb, hN, seval]
  try rfl
end Go.Proofs.YtojpodeljpfgaaaDoor
