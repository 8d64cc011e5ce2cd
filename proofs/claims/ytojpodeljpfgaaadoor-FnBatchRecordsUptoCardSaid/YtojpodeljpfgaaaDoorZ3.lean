import Derived.Test.YtojpodeljpfgaaaDoorZB
import Derived.Test.YtojpodeljpfgaaaDoorZK
/-
What the proofs of the laws rest on, part Z3.
-/
namespace Go.Proofs.YtojpodeljpfgaaaDoor
set_option linter.all false
open Go.RowKit
set_option maxRecDepth 10000
set_option maxHeartbeats 1000000
def rUvl : Nat → Bs → Option (Nat × Bs)
  | _, [] => none
  | 0, b :: r => if b.toNat ≤ 1 then some (b.toNat, r) else none
  | k + 1, b :: r => if b.toNat < 128 then some (b.toNat, r) else (rUvl k r).map fun x => (b.toNat % 128 + 128 * x.1, x.2)
def uvl (n : Nat) : Bs := zat 9 n
theorem rUvl_aux : ∀ (k n : Nat) (r : Bs), n < 2 * 128 ^ k → rUvl k (zat k n ++ r) = some (n, r)
  | 0, n, r, h => by
    have e : (UInt8.ofNat n).toNat = n := by simp [UInt8.toNat_ofNat']; omega
    simp only [zat, List.cons_append, List.nil_append, rUvl, e]
    rw [if_pos (by omega)]
  | k + 1, n, r, h => by
    unfold zat
    by_cases h1 : n < 128
    · have e : (UInt8.ofNat n).toNat = n := by simp [UInt8.toNat_ofNat']; omega
      rw [if_pos h1]
      simp only [List.cons_append, List.nil_append, rUvl, e]
      rw [if_pos h1]
    · have ih := rUvl_aux k (n / 128) r (by rw [Nat.pow_succ] at h; omega)
      have e : (UInt8.ofNat (n % 128 + 128)).toNat = n % 128 + 128 := by simp [UInt8.toNat_ofNat']; omega
      rw [if_neg h1]
      simp only [List.cons_append, rUvl, e]
      rw [if_neg (by omega), ih, Option.map_some]
      congr 2
      omega
theorem rUvl_uvl (n : Nat) (h : n < 18446744073709551616) (r : Bs) : rUvl 9 (uvl n ++ r) = some (n, r) := rUvl_aux 9 n r (by omega)
theorem uvarAux_succ : ∀ (k n : Nat), n < 128 ^ (k + 1) → zat (k + 1) n = zat k n
  | 0, n, h => by simp [zat]; omega
  | k + 1, n, h => by
    rw [zat]
    conv => rhs; rw [zat]
    rw [uvarAux_succ k (n / 128) (by rw [Nat.pow_succ] at h; omega)]
theorem uvar_uvl (n : Nat) (h : n < 4294967296) : uvar n = uvl n := by
  unfold uvar uvl
  rw [uvarAux_succ 8 n (by omega), uvarAux_succ 7 n (by omega), uvarAux_succ 6 n (by omega), uvarAux_succ 5 n (by omega), uvarAux_succ 4 n (by omega)]
theorem uvarAux_len : ∀ (k n : Nat), 1 ≤ (zat k n).length ∧ (zat k n).length ≤ k + 1
  | 0, n => by simp [zat]
  | k + 1, n => by
    have := uvarAux_len k (n / 128)
    unfold zat
    split <;> simp <;> omega
theorem uvl_len (n : Nat) : 1 ≤ (uvl n).length ∧ (uvl n).length ≤ 10 := uvarAux_len 9 n
theorem uvl_len5 (n : Nat) (h : n < 4294967296) : (uvl n).length ≤ 5 := by
  rw [← uvar_uvl n h]
  exact (uvarAux_len 4 n).2
def zz (n : Int) : Nat := if 0 ≤ n then (2 * n).toNat else (-2 * n - 1).toNat
def unzz (u : Nat) : Int := if u % 2 = 0 then ((u / 2 : Nat) : Int) else -((u / 2 : Nat) : Int) - 1
theorem unzz_zz (n : Int) : unzz (zz n) = n := by
  unfold unzz zz
  split <;> split <;> omega
theorem zz_lt32 {n : Int} (h : -2147483648 ≤ n ∧ n < 2147483648) : zz n < 4294967296 := by unfold zz; split <;> omega
theorem zz_lt64 {n : Int} (h : -9223372036854775808 ≤ n ∧ n < 9223372036854775808) : zz n < 18446744073709551616 := by unfold zz; split <;> omega
def zaN (n : Int) : Bs := uvl (zz n)
theorem zaC (n : Int) : 1 ≤ (zaN n).length ∧ (zaN n).length ≤ 10 := uvl_len _
def xorI (k : IntKind) (x y : Int) : Int := k.wrap ((BitVec.ofInt k.bits x ^^^ BitVec.ofInt k.bits y).toNat : Int)
section
variable {P : Program} {ops : Array Oper} {Q : Exit → Act → World → Prop} {a : Act} {w : World} {rest : List Oper} {d : Option Nat} {ty : TypeId} {pos : String} {af : Array Edge}
theorem wl_xor {t u : TypeId} {x y : Operand} {k : IntKind} {m n : Int} (hx : a.eval x = .int k m) (hy : a.eval y = .int k n)
    (h : WL P ops Q rest (a.put d (.int k (xorI k m n))) w) : WL P ops Q (⟨d, .binOp .xor t x y u, ty, pos, af, none⟩ :: rest) a w :=
  zaK rfl (by simp [execOp, eqGuard, binOp, hx, hy, Op.intBits, xorI]) h
theorem wl_neg {t : TypeId} {x : Operand} {k : IntKind} {m : Int} (hx : a.eval x = .int k m)
    (h : WL P ops Q rest (a.put d (.int k (k.wrap (-m)))) w) : WL P ops Q (⟨d, .unOp .neg t x, ty, pos, af, none⟩ :: rest) a w :=
  zaK rfl (by simp [execOp, hx, Op.unary, Op.intArith]) h
theorem wl_quo {t u : TypeId} {x y : Operand} {k : IntKind} {m n : Int} (hx : a.eval x = .int k m) (hy : a.eval y = .int k n) (hn : 0 < n) (hm : 0 ≤ m)
    (h : WL P ops Q rest (a.put d (.int k (k.wrap (m / n)))) w) : WL P ops Q (⟨d, .binOp .quo t x y u, ty, pos, af, none⟩ :: rest) a w := by
  have h0 : ¬ n = 0 := by omega
  refine zaK rfl ?_ h
  simp [execOp, eqGuard, binOp, hx, hy, h0, Op.intDiv, Int.tdiv_eq_ediv_of_nonneg hm]
theorem wl_shlT {t u : TypeId} {x y : Operand} {k j : IntKind} {m : Int} {c : Nat} (hx : a.eval x = .int k m) (hy : a.eval y = .int j c)
    (h : WL P ops Q rest (a.put d (.int k (shlI k c m))) w) : WL P ops Q (⟨d, .binOp .shl t x y u, ty, pos, af, none⟩ :: rest) a w := by
  have h0' : ¬ ((c : Int) < 0) := by omega
  refine zaK rfl ?_ h
  simp [execOp, eqGuard, binOp, hx, hy, Op.shift, shlI, h0']
end
theorem xor_all (w : Nat) (x : BitVec w) : (x ^^^ BitVec.allOnes w).toNat = 2 ^ w - 1 - x.toNat := by
  rw [BitVec.xor_allOnes, BitVec.toNat_not]
theorem xor_no (w : Nat) (x : BitVec w) : (x ^^^ BitVec.ofInt w 0).toNat = x.toNat := by
  have : BitVec.ofInt w 0 = 0#w := by simp
  rw [this, BitVec.xor_zero]
theorem wrap_u64 (n : Int) : IntKind.u64.wrap n = n % 18446744073709551616 := by simp [IntKind.wrap, IntKind.bits, IntKind.signed]
theorem wrap_i64 (n : Int) : IntKind.i64.wrap n = (n + 9223372036854775808) % 18446744073709551616 - 9223372036854775808 := by simp [IntKind.wrap, IntKind.bits, IntKind.signed]; split <;> omega
theorem u32_xor0 (x : Int) : xorI .u32 x 0 = x % 4294967296 := by
  have e : xorI .u32 x 0 = IntKind.u32.wrap (((BitVec.ofInt 32 x ^^^ BitVec.ofInt 32 0).toNat : Nat) : Int) := rfl
  have hx := toNat_ofInt 32 x
  have : (2 : Int) ^ 32 = 4294967296 := by decide
  rw [this] at hx
  rw [e, xor_no, hx, IntKind.wrap_u32]
  omega
theorem u32_xor1 (x : Int) : xorI .u32 x (4294967295) = 4294967295 - x % 4294967296 := by
  have e : xorI .u32 x (4294967295) = IntKind.u32.wrap (((BitVec.ofInt 32 x ^^^ BitVec.ofInt 32 (4294967295)).toNat : Nat) : Int) := rfl
  have ones : BitVec.ofInt 32 (4294967295) = BitVec.allOnes 32 := by decide
  have hx := toNat_ofInt 32 x
  have : (2 : Int) ^ 32 = 4294967296 := by decide
  rw [this] at hx
  rw [e, ones, xor_all, IntKind.wrap_u32]
  generalize (BitVec.ofInt 32 x).toNat = q at hx
  omega
theorem u64_xor0 (x : Int) : xorI .u64 x 0 = x % 18446744073709551616 := by
  have e : xorI .u64 x 0 = IntKind.u64.wrap (((BitVec.ofInt 64 x ^^^ BitVec.ofInt 64 0).toNat : Nat) : Int) := rfl
  have hx := toNat_ofInt 64 x
  have : (2 : Int) ^ 64 = 18446744073709551616 := by decide
  rw [this] at hx
  rw [e, xor_no, hx, wrap_u64]
  omega
theorem u64_xor1 (x : Int) : xorI .u64 x (18446744073709551615) = 18446744073709551615 - x % 18446744073709551616 := by
  have e : xorI .u64 x (18446744073709551615) = IntKind.u64.wrap (((BitVec.ofInt 64 x ^^^ BitVec.ofInt 64 (18446744073709551615)).toNat : Nat) : Int) := rfl
  have ones : BitVec.ofInt 64 (18446744073709551615) = BitVec.allOnes 64 := by decide
  have hx := toNat_ofInt 64 x
  have : (2 : Int) ^ 64 = 18446744073709551616 := by decide
  rw [this] at hx
  rw [e, ones, xor_all, wrap_u64]
  generalize (BitVec.ofInt 64 x).toNat = q at hx
  omega
theorem i64_xor0 (x : Int) : xorI .i64 x 0 = IntKind.i64.wrap (x % 18446744073709551616) := by
  have e : xorI .i64 x 0 = IntKind.i64.wrap (((BitVec.ofInt 64 x ^^^ BitVec.ofInt 64 0).toNat : Nat) : Int) := rfl
  have hx := toNat_ofInt 64 x
  have : (2 : Int) ^ 64 = 18446744073709551616 := by decide
  rw [this] at hx
  rw [e, xor_no, hx]
theorem i64_xor1 (x : Int) : xorI .i64 x (-1) = IntKind.i64.wrap (18446744073709551615 - x % 18446744073709551616) := by
  have e : xorI .i64 x (-1) = IntKind.i64.wrap (((BitVec.ofInt 64 x ^^^ BitVec.ofInt 64 (-1)).toNat : Nat) : Int) := rfl
  have ones : BitVec.ofInt 64 (-1) = BitVec.allOnes 64 := by decide
  have hx := toNat_ofInt 64 x
  have : (2 : Int) ^ 64 = 18446744073709551616 := by decide
  rw [this] at hx
  rw [e, ones, xor_all]
  simp only [wrap_i64]
  generalize (BitVec.ofInt 64 x).toNat = q at hx
  omega
theorem turn32 {n : Int} (h : -2147483648 ≤ n ∧ n < 2147483648) : xorI .u32 (shlI .u32 1 (IntKind.u32.wrap n)) (IntKind.u32.wrap (n / 2147483648)) = ((zz n : Nat) : Int) := by
  have e1 : shlI .u32 1 (IntKind.u32.wrap n) = (2 * n) % 4294967296 := by
    unfold shlI; simp only [IntKind.wrap_u32, IntKind.bits]; simp; omega
  rw [e1, IntKind.wrap_u32]
  unfold zz
  by_cases h0 : 0 ≤ n
  · rw [if_pos h0, show n / 2147483648 % 4294967296 = 0 by omega, u32_xor0]; omega
  · rw [if_neg h0, show n / 2147483648 % 4294967296 = 4294967295 by omega, u32_xor1]; omega
theorem turn64 {n : Int} (h : -9223372036854775808 ≤ n ∧ n < 9223372036854775808) : xorI .u64 (shlI .u64 1 (IntKind.u64.wrap n)) (IntKind.u64.wrap (n / 9223372036854775808)) = ((zz n : Nat) : Int) := by
  have e1 : shlI .u64 1 (IntKind.u64.wrap n) = (2 * n) % 18446744073709551616 := by
    unfold shlI; simp only [wrap_u64, IntKind.bits]; simp; omega
  rw [e1, wrap_u64]
  unfold zz
  by_cases h0 : 0 ≤ n
  · rw [if_pos h0, show n / 9223372036854775808 % 18446744073709551616 = 0 by omega, u64_xor0]; omega
  · rw [if_neg h0, show n / 9223372036854775808 % 18446744073709551616 = 18446744073709551615 by omega, u64_xor1]; omega
theorem back32 {u : Nat} (h : u < 4294967296) : IntKind.i32.wrap (xorI .u32 ((u : Int) / 2) (IntKind.u32.wrap (-((u : Int) % 2)))) = unzz u := by
  rw [i32_wrap, IntKind.wrap_u32]
  unfold unzz wrap32i
  by_cases h0 : u % 2 = 0
  · rw [if_pos h0, show (-((u : Int) % 2)) % 4294967296 = 0 by omega, u32_xor0]; omega
  · rw [if_neg h0, show (-((u : Int) % 2)) % 4294967296 = 4294967295 by omega, u32_xor1]; omega
theorem back64 {u : Nat} (h : u < 18446744073709551616) : IntKind.i64.wrap (xorI .u64 ((u : Int) / 2) (IntKind.u64.wrap (-((u : Int) % 2)))) = unzz u := by
  rw [wrap_i64, wrap_u64]
  unfold unzz
  by_cases h0 : u % 2 = 0
  · rw [if_pos h0, show (-((u : Int) % 2)) % 18446744073709551616 = 0 by omega, u64_xor0]; omega
  · rw [if_neg h0, show (-((u : Int) % 2)) % 18446744073709551616 = 18446744073709551615 by omega, u64_xor1]; omega
theorem back64s {u : Nat} (h : u < 18446744073709551616) : xorI .i64 (IntKind.i64.wrap ((u : Int) / 2)) (IntKind.i64.wrap (-(IntKind.i64.wrap ((u : Int) % 2)))) = unzz u := by
  unfold unzz
  by_cases h0 : u % 2 = 0
  · have e : IntKind.i64.wrap (-(IntKind.i64.wrap ((u : Int) % 2))) = 0 := by simp only [wrap_i64]; omega
    rw [if_pos h0, e, i64_xor0]; simp only [wrap_i64]; omega
  · have e : IntKind.i64.wrap (-(IntKind.i64.wrap ((u : Int) % 2))) = -1 := by simp only [wrap_i64]; omega
    rw [if_neg h0, e, i64_xor1]; simp only [wrap_i64]; omega
end Go.Proofs.YtojpodeljpfgaaaDoor
namespace Go.Proofs.YtojpodeljpfgaaaDoor
set_option linter.all false
open Go.RowKit Go.Lib
set_option maxRecDepth 10000
set_option maxHeartbeats 4000000
theorem zaO {ops : Array Oper} {Q : Exit → Act → World → Prop} {a : Act} {w : World} {rest : List Oper} {d1 d2 : Nat} {ty1 ty2 : TypeId} {pos1 pos2 : String} {af1 af2 : Array Edge}
    {n : Nat} {parts : Array (Nat × Operand)} {base : Nat} {v : Value} {bs : Bs} {x : Operand} (vs : Bs)
    (hp : (parts.map fun y => (y.1, a.eval y.2)) = ((vs.map byteV).zipIdx.map fun y => (y.2, y.1)).toArray) (hn : n = vs.length) (h8 : vs.length ≤ 16)
    (hx : (a.put (some d1) (.slice (some ⟨w.heap.size, 0, none⟩) n n)).eval x = v) (hd : d1 < a.tmps.size)
    (hown : Own eB w base v bs) (hl : bs.length + vs.length ≤ LIM) (hb : base ≤ w.heap.size)
    (h : ∀ v' w', App eB w base v (bs ++ vs) v' w' → WL Tryd.prog ops Q rest ((a.put (some d1) (.slice (some ⟨w.heap.size, 0, none⟩) n n)).put (some d2) v') w') :
    WL Tryd.prog ops Q (⟨some d1, .buildSlice 24 n parts, ty1, pos1, af1, none⟩ :: ⟨some d2, .call { callee := .builtin .append, args := #[x, .tmp d1], argTypes := #[24, 24] }, ty2, pos2, af2, none⟩ :: rest) a w := by
  subst hn
  have hr := run_lit (w := w) vs (by omega)
  rw [← hp] at hr
  refine wl_bytesLit (e := eB) (bs := vs) hr ?_
  intro w1 hc hbt
  have how : Own eB w1 base v bs := hown.chg hc (fun _ _ h => h)
  refine wl_append bT hx (by rw [eval_tmp, get_put_self hd]) how hbt hl (Nat.le_trans hb hc.size) ?_
  intro v' w2 happ
  refine h v' w2 ⟨happ.own, (hc.mono (Y := fun k => v.ownBlock = some k) fun _ _ h => h.elim).trans happ.chg fun _ _ h => h, ?_⟩
  rcases happ.blk with h | ⟨k, h1, h2⟩
  · exact .inl h
  · exact .inr ⟨k, h1, Nat.le_trans hc.size h2⟩
def blen64 (n : Nat) : Nat := if 4294967296 ≤ n then 32 + blen (n / 4294967296) else blen n
def lens64 (j : Nat) : Nat := if j ≤ 7 then 1 else if j ≤ 14 then 2 else if j ≤ 21 then 3 else if j ≤ 28 then 4 else if j ≤ 35 then 5 else if j ≤ 42 then 6 else if j ≤ 49 then 7 else if j ≤ 56 then 8 else if j ≤ 63 then 9 else 10
def ulen64 (n : Nat) : Nat := if n < 128 then 1 else if n < 16384 then 2 else if n < 2097152 then 3 else if n < 268435456 then 4 else if n < 34359738368 then 5 else if n < 4398046511104 then 6 else if n < 562949953421312 then 7 else if n < 72057594037927936 then 8 else if n < 9223372036854775808 then 9 else 10
theorem l64_56 : ∀ m, m < 256 → 1 ≤ m → lens64 (32 + (24 + len8 m)) = if m < 128 then 9 else 10 := by decide +kernel
theorem l64_48 : ∀ m, m < 256 → 1 ≤ m → lens64 (32 + (16 + len8 m)) = if m < 2 then 7 else 8 := by decide +kernel
theorem l64_40 : ∀ m, m < 256 → 1 ≤ m → lens64 (32 + (8 + len8 m)) = if m < 4 then 6 else 7 := by decide +kernel
theorem l64_32 : ∀ m, m < 256 → 1 ≤ m → lens64 (32 + len8 m) = if m < 8 then 5 else 6 := by decide +kernel
theorem l64_24 : ∀ m, m < 256 → 1 ≤ m → lens64 (24 + len8 m) = if m < 16 then 4 else 5 := by decide +kernel
theorem l64_16 : ∀ m, m < 256 → 1 ≤ m → lens64 (16 + len8 m) = if m < 32 then 3 else 4 := by decide +kernel
theorem l64_08 : ∀ m, m < 256 → 1 ≤ m → lens64 (8 + len8 m) = if m < 64 then 2 else 3 := by decide +kernel
theorem l64_00 : ∀ m, m < 256 → lens64 (len8 m) = if m < 128 then 1 else 2 := by decide +kernel
theorem blen64_le (n : Nat) (h : n < 18446744073709551616) : blen64 n ≤ 64 := by
  unfold blen64
  split
  · have := blen_le (n / 4294967296) (by omega); omega
  · have := blen_le n (by omega); omega
theorem lens64_blen (n : Nat) (h : n < 18446744073709551616) : lens64 (blen64 n) = ulen64 n := by
  unfold blen64 blen ulen64
  split
  · split
    · split
      · rw [l64_56 _ (by omega) (by omega)]; (repeat' split) <;> omega
      · rw [l64_48 _ (by omega) (by omega)]; (repeat' split) <;> omega
    · split
      · rw [l64_40 _ (by omega) (by omega)]; (repeat' split) <;> omega
      · rw [l64_32 _ (by omega) (by omega)]; (repeat' split) <;> omega
  · split
    · split
      · rw [l64_24 _ (by omega) (by omega)]; (repeat' split) <;> omega
      · rw [l64_16 _ (by omega) (by omega)]; (repeat' split) <;> omega
    · split
      · rw [l64_08 _ (by omega) (by omega)]; (repeat' split) <;> omega
      · rw [l64_00 _ (by omega)]; (repeat' split) <;> omega
theorem Len64_c (n : Nat) (hn : n < 18446744073709551616) (w : World) : zan Tryd.prog 75 #[.int .u64 n] w fun v w' => v = .int .i64 (blen64 n) ∧ w' = w := by
  refine zaj Tryd.func75 rfl rfl Tryd.ntmps75 (by simp) ?_
  intro a hN hD ha
  have h0 : get a 0 = .int .u64 n := ha 0 _ rfl
  refine wp_seq_k fun K hK => ?_; refine zac ?_; refine zaF ?_; refine zaa ?_; refine hK _ _ ?_; clear hK K
  refine wp_cut (fun a' w' => a'.tmps.size = 25 ∧ a'.defers = [] ∧ w' = w ∧ ∃ m k : Nat, get a' 0 = .int .u64 m ∧ get a' 2 = .int .i64 k ∧ m < 4294967296 ∧ k ≤ 32 ∧ blen64 n = k + blen m) ?_ ?_
  · by_cases hc : 4294967296 ≤ n
    · have d1 : decide ((4294967296 : Int) ≤ (n : Int)) = true := decide_eq_true (by omega)
      refine wp_seq_k fun K hK => ?_; refine zac ?_; (repeat (first | ((with_reducible refine zav ?_ ?_ ?_ ?_); (· exact rfl); (· simp [evb, kb, hN, h0, dyb, sdb] <;> omega); (· kernel_rfl); try simp only [evb, kb, hN, seval, pvb, h0]) | ((with_reducible refine zag ?_ ?_ ?_); rotate_left 1; (· simp [evb, kb, hN, h0, sdb]); rotate_left 1; (· kernel_rfl); try simp only [evb, kb, hN, seval, pvb, h0]) | ((with_reducible first | refine zai ?_ ?_ ?_ | refine zad ?_ ?_ | refine zae ?_ ?_ ?_) <;> (first | (with_reducible refine zal ?_; try simp only [evb, kb, hN, seval, pvb, h0]) | (simp [evb, kb, hN, h0, sdb] <;> omega))))); refine zaa ?_; refine hK _ _ ?_; clear hK K
      refine wp_cond_true (by simp [evb, kb, hN, h0, d1, sdb]) ?_
      refine wp_seq_k fun K hK => ?_; refine zac ?_; (repeat (first | ((with_reducible refine zav ?_ ?_ ?_ ?_); (· exact rfl); (· simp [evb, kb, hN, h0, dyb, sdb] <;> omega); (· kernel_rfl); try simp only [evb, kb, hN, seval, pvb, h0]) | ((with_reducible refine zag ?_ ?_ ?_); rotate_left 1; (· simp [evb, kb, hN, h0, sdb]); rotate_left 1; (· kernel_rfl); try simp only [evb, kb, hN, seval, pvb, h0]) | ((with_reducible first | refine zai ?_ ?_ ?_ | refine zad ?_ ?_ | refine zae ?_ ?_ ?_) <;> (first | (with_reducible refine zal ?_; try simp only [evb, kb, hN, seval, pvb, h0]) | (simp [evb, kb, hN, h0, sdb] <;> omega))))); refine zaa ?_; refine hK _ _ ?_; clear hK K
      refine zac ?_; (repeat (first | ((with_reducible refine zav ?_ ?_ ?_ ?_); (· exact rfl); (· simp [evb, kb, hN, h0, dyb, sdb] <;> omega); (· kernel_rfl); try simp only [evb, kb, hN, seval, pvb, h0]) | ((with_reducible refine zag ?_ ?_ ?_); rotate_left 1; (· simp [evb, kb, hN, h0, sdb]); rotate_left 1; (· kernel_rfl); try simp only [evb, kb, hN, seval, pvb, h0]) | ((with_reducible first | refine zai ?_ ?_ ?_ | refine zad ?_ ?_ | refine zae ?_ ?_ ?_) <;> (first | (with_reducible refine zal ?_; try simp only [evb, kb, hN, seval, pvb, h0]) | (simp [evb, kb, hN, h0, sdb] <;> omega))))); refine zaa ?_
      exact ⟨by simp [evb, kb, hN, seval], by simp [zab, hD], rfl, n / 4294967296, 32, by simp [evb, kb, hN, seval, IntKind.bits], by simp [evb, kb, hN, sdb], by omega, by omega, by unfold blen64; rw [if_pos hc]⟩
    · have d1 : decide ((4294967296 : Int) ≤ (n : Int)) = false := decide_eq_false (by omega)
      refine wp_seq_k fun K hK => ?_; refine zac ?_; (repeat (first | ((with_reducible refine zav ?_ ?_ ?_ ?_); (· exact rfl); (· simp [evb, kb, hN, h0, dyb, sdb] <;> omega); (· kernel_rfl); try simp only [evb, kb, hN, seval, pvb, h0]) | ((with_reducible refine zag ?_ ?_ ?_); rotate_left 1; (· simp [evb, kb, hN, h0, sdb]); rotate_left 1; (· kernel_rfl); try simp only [evb, kb, hN, seval, pvb, h0]) | ((with_reducible first | refine zai ?_ ?_ ?_ | refine zad ?_ ?_ | refine zae ?_ ?_ ?_) <;> (first | (with_reducible refine zal ?_; try simp only [evb, kb, hN, seval, pvb, h0]) | (simp [evb, kb, hN, h0, sdb] <;> omega))))); refine zaa ?_; refine hK _ _ ?_; clear hK K
      refine wp_cond_false (by simp [evb, kb, hN, h0, d1, sdb]) ?_
      refine wp_skip ?_
      exact ⟨by simp [evb, kb, hN, seval], by simp [zab, hD], rfl, n, 0, by simp [evb, kb, hN, h0, sdb], by simp [evb, kb, hN, sdb], by omega, by omega, by unfold blen64; rw [if_neg hc]; omega⟩
  rintro a w' ⟨hN, hD, rfl, q, j, h0, h2, hq, hj, hb0⟩
  refine wp_cut (fun a' w1 => a'.tmps.size = 25 ∧ a'.defers = [] ∧ w1 = w' ∧ ∃ m k : Nat, get a' 0 = .int .u64 m ∧ get a' 2 = .int .i64 k ∧ ((65536 ≤ q ∧ m = q / 65536 ∧ k = j + 16) ∨ (q < 65536 ∧ m = q ∧ k = j))) ?_ ?_
  · by_cases hc : 65536 ≤ q
    · have d1 : decide ((65536 : Int) ≤ (q : Int)) = true := decide_eq_true (by omega)
      have e1 := zaI ((j : Int) + 16) (by omega)
      refine wp_seq_k fun K hK => ?_; refine zac ?_; (repeat (first | ((with_reducible refine zav ?_ ?_ ?_ ?_); (· exact rfl); (· simp [evb, kb, hN, h0, dyb, sdb] <;> omega); (· kernel_rfl); try simp only [evb, kb, hN, seval, pvb, h0]) | ((with_reducible refine zag ?_ ?_ ?_); rotate_left 1; (· simp [evb, kb, hN, h0, sdb]); rotate_left 1; (· kernel_rfl); try simp only [evb, kb, hN, seval, pvb, h0]) | ((with_reducible first | refine zai ?_ ?_ ?_ | refine zad ?_ ?_ | refine zae ?_ ?_ ?_) <;> (first | (with_reducible refine zal ?_; try simp only [evb, kb, hN, seval, pvb, h0]) | (simp [evb, kb, hN, h0, sdb] <;> omega))))); refine zaa ?_; refine hK _ _ ?_; clear hK K
      refine wp_cond_true (by simp [evb, kb, hN, h0, d1, sdb]) ?_
      refine wp_seq_k fun K hK => ?_; refine zac ?_; (repeat (first | ((with_reducible refine zav ?_ ?_ ?_ ?_); (· exact rfl); (· simp [evb, kb, hN, h0, dyb, sdb] <;> omega); (· kernel_rfl); try simp only [evb, kb, hN, seval, pvb, h0]) | ((with_reducible refine zag ?_ ?_ ?_); rotate_left 1; (· simp [evb, kb, hN, h0, sdb]); rotate_left 1; (· kernel_rfl); try simp only [evb, kb, hN, seval, pvb, h0]) | ((with_reducible first | refine zai ?_ ?_ ?_ | refine zad ?_ ?_ | refine zae ?_ ?_ ?_) <;> (first | (with_reducible refine zal ?_; try simp only [evb, kb, hN, seval, pvb, h0]) | (simp [evb, kb, hN, h0, sdb] <;> omega))))); refine zaa ?_; refine hK _ _ ?_; clear hK K
      refine zac ?_; (repeat (first | ((with_reducible refine zav ?_ ?_ ?_ ?_); (· exact rfl); (· simp [evb, kb, hN, h2, e1, dyb, sdb] <;> omega); (· kernel_rfl); try simp only [evb, kb, hN, seval, pvb, h2, e1]) | ((with_reducible refine zag ?_ ?_ ?_); rotate_left 1; (· simp [evb, kb, hN, h2, e1, sdb]); rotate_left 1; (· kernel_rfl); try simp only [evb, kb, hN, seval, pvb, h2, e1]) | ((with_reducible first | refine zai ?_ ?_ ?_ | refine zad ?_ ?_ | refine zae ?_ ?_ ?_) <;> (first | (with_reducible refine zal ?_; try simp only [evb, kb, hN, seval, pvb, h2, e1]) | (simp [evb, kb, hN, h2, e1, sdb] <;> omega))))); refine zaa ?_
      exact ⟨by simp [evb, kb, hN, seval], by simp [zab, hD], rfl, q / 65536, j + 16, by simp [evb, kb, hN, seval, IntKind.bits], by simp [evb, kb, hN, seval], .inl ⟨hc, rfl, rfl⟩⟩
    · have d1 : decide ((65536 : Int) ≤ (q : Int)) = false := decide_eq_false (by omega)
      refine wp_seq_k fun K hK => ?_; refine zac ?_; (repeat (first | ((with_reducible refine zav ?_ ?_ ?_ ?_); (· exact rfl); (· simp [evb, kb, hN, h0, dyb, sdb] <;> omega); (· kernel_rfl); try simp only [evb, kb, hN, seval, pvb, h0]) | ((with_reducible refine zag ?_ ?_ ?_); rotate_left 1; (· simp [evb, kb, hN, h0, sdb]); rotate_left 1; (· kernel_rfl); try simp only [evb, kb, hN, seval, pvb, h0]) | ((with_reducible first | refine zai ?_ ?_ ?_ | refine zad ?_ ?_ | refine zae ?_ ?_ ?_) <;> (first | (with_reducible refine zal ?_; try simp only [evb, kb, hN, seval, pvb, h0]) | (simp [evb, kb, hN, h0, sdb] <;> omega))))); refine zaa ?_; refine hK _ _ ?_; clear hK K
      refine wp_cond_false (by simp [evb, kb, hN, h0, d1, sdb]) ?_
      refine wp_skip ?_
      exact ⟨by simp [evb, kb, hN, seval], by simp [zab, hD], rfl, q, j, by simp [evb, kb, hN, h0, sdb], by simp [evb, kb, hN, h2, sdb], .inr ⟨by omega, rfl, rfl⟩⟩
  rintro a w1 ⟨hN, hD, rfl, m, k, h0, h2, hmk⟩
  refine wp_cut (fun a' w2 => a'.tmps.size = 25 ∧ a'.defers = [] ∧ w2 = w1 ∧ ∃ m k : Nat, get a' 0 = .int .u64 m ∧ get a' 2 = .int .i64 k ∧ m < 256 ∧ k ≤ 56 ∧ blen64 n = k + len8 m) ?_ ?_
  · by_cases hc : 256 ≤ m
    · have d1 : decide ((256 : Int) ≤ (m : Int)) = true := decide_eq_true (by omega)
      have e1 := zaI ((k : Int) + 8) (by omega)
      refine wp_seq_k fun K hK => ?_; refine zac ?_; (repeat (first | ((with_reducible refine zav ?_ ?_ ?_ ?_); (· exact rfl); (· simp [evb, kb, hN, h0, dyb, sdb] <;> omega); (· kernel_rfl); try simp only [evb, kb, hN, seval, pvb, h0]) | ((with_reducible refine zag ?_ ?_ ?_); rotate_left 1; (· simp [evb, kb, hN, h0, sdb]); rotate_left 1; (· kernel_rfl); try simp only [evb, kb, hN, seval, pvb, h0]) | ((with_reducible first | refine zai ?_ ?_ ?_ | refine zad ?_ ?_ | refine zae ?_ ?_ ?_) <;> (first | (with_reducible refine zal ?_; try simp only [evb, kb, hN, seval, pvb, h0]) | (simp [evb, kb, hN, h0, sdb] <;> omega))))); refine zaa ?_; refine hK _ _ ?_; clear hK K
      refine wp_cond_true (by simp [evb, kb, hN, h0, d1, sdb]) ?_
      refine wp_seq_k fun K hK => ?_; refine zac ?_; (repeat (first | ((with_reducible refine zav ?_ ?_ ?_ ?_); (· exact rfl); (· simp [evb, kb, hN, h0, dyb, sdb] <;> omega); (· kernel_rfl); try simp only [evb, kb, hN, seval, pvb, h0]) | ((with_reducible refine zag ?_ ?_ ?_); rotate_left 1; (· simp [evb, kb, hN, h0, sdb]); rotate_left 1; (· kernel_rfl); try simp only [evb, kb, hN, seval, pvb, h0]) | ((with_reducible first | refine zai ?_ ?_ ?_ | refine zad ?_ ?_ | refine zae ?_ ?_ ?_) <;> (first | (with_reducible refine zal ?_; try simp only [evb, kb, hN, seval, pvb, h0]) | (simp [evb, kb, hN, h0, sdb] <;> omega))))); refine zaa ?_; refine hK _ _ ?_; clear hK K
      refine zac ?_; (repeat (first | ((with_reducible refine zav ?_ ?_ ?_ ?_); (· exact rfl); (· simp [evb, kb, hN, h2, e1, dyb, sdb] <;> omega); (· kernel_rfl); try simp only [evb, kb, hN, seval, pvb, h2, e1]) | ((with_reducible refine zag ?_ ?_ ?_); rotate_left 1; (· simp [evb, kb, hN, h2, e1, sdb]); rotate_left 1; (· kernel_rfl); try simp only [evb, kb, hN, seval, pvb, h2, e1]) | ((with_reducible first | refine zai ?_ ?_ ?_ | refine zad ?_ ?_ | refine zae ?_ ?_ ?_) <;> (first | (with_reducible refine zal ?_; try simp only [evb, kb, hN, seval, pvb, h2, e1]) | (simp [evb, kb, hN, h2, e1, sdb] <;> omega))))); refine zaa ?_
      refine ⟨by simp [evb, kb, hN, seval], by simp [zab, hD], rfl, m / 256, k + 8, by simp [evb, kb, hN, seval, IntKind.bits], by simp [evb, kb, hN, seval], by omega, by omega, ?_⟩
      rw [hb0]
      unfold blen
      rcases hmk with ⟨h1, rfl, rfl⟩ | ⟨h1, rfl, rfl⟩
      · rw [if_pos h1, if_pos hc]; omega
      · rw [if_neg (by omega), if_pos hc]; omega
    · have d1 : decide ((256 : Int) ≤ (m : Int)) = false := decide_eq_false (by omega)
      refine wp_seq_k fun K hK => ?_; refine zac ?_; (repeat (first | ((with_reducible refine zav ?_ ?_ ?_ ?_); (· exact rfl); (· simp [evb, kb, hN, h0, dyb, sdb] <;> omega); (· kernel_rfl); try simp only [evb, kb, hN, seval, pvb, h0]) | ((with_reducible refine zag ?_ ?_ ?_); rotate_left 1; (· simp [evb, kb, hN, h0, sdb]); rotate_left 1; (· kernel_rfl); try simp only [evb, kb, hN, seval, pvb, h0]) | ((with_reducible first | refine zai ?_ ?_ ?_ | refine zad ?_ ?_ | refine zae ?_ ?_ ?_) <;> (first | (with_reducible refine zal ?_; try simp only [evb, kb, hN, seval, pvb, h0]) | (simp [evb, kb, hN, h0, sdb] <;> omega))))); refine zaa ?_; refine hK _ _ ?_; clear hK K
      refine wp_cond_false (by simp [evb, kb, hN, h0, d1, sdb]) ?_
      refine wp_skip ?_
      refine ⟨by simp [evb, kb, hN, seval], by simp [zab, hD], rfl, m, k, by simp [evb, kb, hN, h0, sdb], by simp [evb, kb, hN, h2, sdb], by omega, by omega, ?_⟩
      rw [hb0]
      unfold blen
      rcases hmk with ⟨h1, rfl, rfl⟩ | ⟨h1, rfl, rfl⟩
      · rw [if_pos h1, if_neg hc]; omega
      · rw [if_neg (by omega), if_neg hc]
  rintro a w2 ⟨hN, hD, rfl, m, k, h0, h2, hm, hk, hb⟩
  have h8 := len8_le m hm
  refine wp_seq_k fun K hK => ?_; refine zac ?_; (repeat (first | ((with_reducible refine zav ?_ ?_ ?_ ?_); (· exact rfl); (· simp [evb, kb, hN, h0, h2, u8_id m hm, dyb, sdb] <;> omega); (· kernel_rfl); try simp only [evb, kb, hN, seval, pvb, h0, h2, u8_id m hm]) | ((with_reducible refine zag ?_ ?_ ?_); rotate_left 1; (· simp [evb, kb, hN, h0, h2, u8_id m hm, sdb]); rotate_left 1; (· kernel_rfl); try simp only [evb, kb, hN, seval, pvb, h0, h2, u8_id m hm]) | ((with_reducible first | refine zai ?_ ?_ ?_ | refine zad ?_ ?_ | refine zae ?_ ?_ ?_) <;> (first | (with_reducible refine zal ?_; try simp only [evb, kb, hN, seval, pvb, h0, h2, u8_id m hm]) | (simp [evb, kb, hN, h0, h2, u8_id m hm, sdb] <;> omega)))))
  refine wl_indexC (k := .u8) (i := m) (m := 256) len8 (by kernel_rfl) (by simp [evb, kb, hN, sdb]) hm (by decide +kernel) ?_
  (repeat (first | ((with_reducible refine zav ?_ ?_ ?_ ?_); (· exact rfl); (· simp [evb, kb, hN, zaI (len8 m : Int) (by omega), zaI ((k : Int) + (len8 m : Int)) (by omega), dyb, sdb] <;> omega); (· kernel_rfl); try simp only [evb, kb, hN, seval, pvb, zaI (len8 m : Int) (by omega), zaI ((k : Int) + (len8 m : Int)) (by omega)]) | ((with_reducible refine zag ?_ ?_ ?_); rotate_left 1; (· simp [evb, kb, hN, zaI (len8 m : Int) (by omega), zaI ((k : Int) + (len8 m : Int)) (by omega), sdb]); rotate_left 1; (· kernel_rfl); try simp only [evb, kb, hN, seval, pvb, zaI (len8 m : Int) (by omega), zaI ((k : Int) + (len8 m : Int)) (by omega)]) | ((with_reducible first | refine zai ?_ ?_ ?_ | refine zad ?_ ?_ | refine zae ?_ ?_ ?_) <;> (first | (with_reducible refine zal ?_; try simp only [evb, kb, hN, seval, pvb, zaI (len8 m : Int) (by omega), zaI ((k : Int) + (len8 m : Int)) (by omega)]) | (simp [evb, kb, hN, zaI (len8 m : Int) (by omega), zaI ((k : Int) + (len8 m : Int)) (by omega), sdb] <;> omega)))))
  refine zaa ?_; refine hK _ _ ?_; clear hK K; refine wp_ret ⟨by simp [zab, hD], ?_⟩; simp only [evb, kb, hN, seval]
  exact ⟨by rw [hb]; push_cast; rfl, by first | rfl | trivial⟩
theorem uvarlongLen_c (n : Nat) (hn : n < 18446744073709551616) (w : World) : zan Tryd.prog 67 #[.int .u64 n] w fun v w' => v = .int .i64 (ulen64 n) ∧ w' = w := by
  refine zaj Tryd.func67 rfl rfl Tryd.ntmps67 (by simp) ?_
  intro a hN hD ha
  have h0 : get a 0 = .int .u64 n := ha 0 _ rfl
  have hb := blen64_le n hn
  refine wp_seq_k fun K hK => ?_; refine zac ?_; refine zaF ?_; refine zaa ?_; refine hK _ _ ?_; clear hK K
  refine wp_seq_k fun K hK => ?_; refine zac ?_; (repeat (first | ((with_reducible refine zav ?_ ?_ ?_ ?_); (· exact rfl); (· simp [evb, kb, hN, h0, dyb, sdb] <;> omega); (· kernel_rfl); try simp only [evb, kb, hN, seval, pvb, h0]) | ((with_reducible refine zag ?_ ?_ ?_); rotate_left 1; (· simp [evb, kb, hN, h0, sdb]); rotate_left 1; (· kernel_rfl); try simp only [evb, kb, hN, seval, pvb, h0]) | ((with_reducible first | refine zai ?_ ?_ ?_ | refine zad ?_ ?_ | refine zae ?_ ?_ ?_) <;> (first | (with_reducible refine zal ?_; try simp only [evb, kb, hN, seval, pvb, h0]) | (simp [evb, kb, hN, h0, sdb] <;> omega)))))
  refine zak (fun args w => Tryd.call75 args w) (by simp [evb, kb, hN, seval, h0]; exact Len64_c n hn w) ?_
  rintro v w1 ⟨rfl, rfl⟩
  (repeat (first | ((with_reducible refine zav ?_ ?_ ?_ ?_); (· exact rfl); (· simp [evb, kb, hN, u8_id (blen64 n) (by omega), dyb, sdb] <;> omega); (· kernel_rfl); try simp only [evb, kb, hN, seval, pvb, u8_id (blen64 n) (by omega)]) | ((with_reducible refine zag ?_ ?_ ?_); rotate_left 1; (· simp [evb, kb, hN, u8_id (blen64 n) (by omega), sdb]); rotate_left 1; (· kernel_rfl); try simp only [evb, kb, hN, seval, pvb, u8_id (blen64 n) (by omega)]) | ((with_reducible first | refine zai ?_ ?_ ?_ | refine zad ?_ ?_ | refine zae ?_ ?_ ?_) <;> (first | (with_reducible refine zal ?_; try simp only [evb, kb, hN, seval, pvb, u8_id (blen64 n) (by omega)]) | (simp [evb, kb, hN, u8_id (blen64 n) (by omega), sdb] <;> omega)))))
  refine wl_indexC (k := .u8) (i := blen64 n) (m := 65) lens64 (by kernel_rfl) (by simp [evb, kb, hN, sdb]) (by omega) (by decide +kernel) ?_
  have hl : lens64 (blen64 n) ≤ 10 := by unfold lens64; (repeat' split) <;> omega
  (repeat (first | ((with_reducible refine zav ?_ ?_ ?_ ?_); (· exact rfl); (· simp [evb, kb, hN, zaI (lens64 (blen64 n) : Int) (by omega), dyb, sdb] <;> omega); (· kernel_rfl); try simp only [evb, kb, hN, seval, pvb, zaI (lens64 (blen64 n) : Int) (by omega)]) | ((with_reducible refine zag ?_ ?_ ?_); rotate_left 1; (· simp [evb, kb, hN, zaI (lens64 (blen64 n) : Int) (by omega), sdb]); rotate_left 1; (· kernel_rfl); try simp only [evb, kb, hN, seval, pvb, zaI (lens64 (blen64 n) : Int) (by omega)]) | ((with_reducible first | refine zai ?_ ?_ ?_ | refine zad ?_ ?_ | refine zae ?_ ?_ ?_) <;> (first | (with_reducible refine zal ?_; try simp only [evb, kb, hN, seval, pvb, zaI (lens64 (blen64 n) : Int) (by omega)]) | (simp [evb, kb, hN, zaI (lens64 (blen64 n) : Int) (by omega), sdb] <;> omega)))))
  refine zaa ?_; refine hK _ _ ?_; clear hK K; refine wp_ret ⟨by simp [zab, hD], ?_⟩; simp only [evb, kb, hN, seval]
  exact ⟨by rw [lens64_blen n hn], by first | rfl | trivial⟩
theorem uvl_1 (n : Nat) (h2 : n < 128) : uvl n = [UInt8.ofNat n] := by
  have b : n < 128 := by omega
  simp only [uvl, zat, if_pos b]
theorem uvl_2 (n : Nat) (h : ¬ n < 128) (h2 : n < 16384) : uvl n = [UInt8.ofNat (n % 128 + 128), UInt8.ofNat (n / 128)] := by
  have a0 : ¬ n < 128 := by omega
  have b : n / 128 < 128 := by omega
  simp only [uvl, zat, if_neg a0, if_pos b]
theorem uvl_3 (n : Nat) (h : ¬ n < 16384) (h2 : n < 2097152) : uvl n = [UInt8.ofNat (n % 128 + 128), UInt8.ofNat (n / 128 % 128 + 128), UInt8.ofNat (n / 16384)] := by
  have a0 : ¬ n < 128 := by omega
  have a1 : ¬ n / 128 < 128 := by omega
  have b : n / 16384 < 128 := by omega
  have e1 : n / 128 / 128 = n / 16384 := by omega
  simp only [uvl, zat, if_neg a0, if_neg a1, e1, if_pos b]
theorem uvl_4 (n : Nat) (h : ¬ n < 2097152) (h2 : n < 268435456) : uvl n = [UInt8.ofNat (n % 128 + 128), UInt8.ofNat (n / 128 % 128 + 128), UInt8.ofNat (n / 16384 % 128 + 128), UInt8.ofNat (n / 2097152)] := by
  have a0 : ¬ n < 128 := by omega
  have a1 : ¬ n / 128 < 128 := by omega
  have a2 : ¬ n / 16384 < 128 := by omega
  have b : n / 2097152 < 128 := by omega
  have e1 : n / 128 / 128 = n / 16384 := by omega
  have e2 : n / 16384 / 128 = n / 2097152 := by omega
  simp only [uvl, zat, if_neg a0, if_neg a1, if_neg a2, e1, e2, if_pos b]
theorem uvl_5 (n : Nat) (h : ¬ n < 268435456) (h2 : n < 34359738368) : uvl n = [UInt8.ofNat (n % 128 + 128), UInt8.ofNat (n / 128 % 128 + 128), UInt8.ofNat (n / 16384 % 128 + 128), UInt8.ofNat (n / 2097152 % 128 + 128), UInt8.ofNat (n / 268435456)] := by
  have a0 : ¬ n < 128 := by omega
  have a1 : ¬ n / 128 < 128 := by omega
  have a2 : ¬ n / 16384 < 128 := by omega
  have a3 : ¬ n / 2097152 < 128 := by omega
  have b : n / 268435456 < 128 := by omega
  have e1 : n / 128 / 128 = n / 16384 := by omega
  have e2 : n / 16384 / 128 = n / 2097152 := by omega
  have e3 : n / 2097152 / 128 = n / 268435456 := by omega
  simp only [uvl, zat, if_neg a0, if_neg a1, if_neg a2, if_neg a3, e1, e2, e3, if_pos b]
theorem uvl_6 (n : Nat) (h : ¬ n < 34359738368) (h2 : n < 4398046511104) : uvl n = [UInt8.ofNat (n % 128 + 128), UInt8.ofNat (n / 128 % 128 + 128), UInt8.ofNat (n / 16384 % 128 + 128), UInt8.ofNat (n / 2097152 % 128 + 128), UInt8.ofNat (n / 268435456 % 128 + 128), UInt8.ofNat (n / 34359738368)] := by
  have a0 : ¬ n < 128 := by omega
  have a1 : ¬ n / 128 < 128 := by omega
  have a2 : ¬ n / 16384 < 128 := by omega
  have a3 : ¬ n / 2097152 < 128 := by omega
  have a4 : ¬ n / 268435456 < 128 := by omega
  have b : n / 34359738368 < 128 := by omega
  have e1 : n / 128 / 128 = n / 16384 := by omega
  have e2 : n / 16384 / 128 = n / 2097152 := by omega
  have e3 : n / 2097152 / 128 = n / 268435456 := by omega
  have e4 : n / 268435456 / 128 = n / 34359738368 := by omega
  simp only [uvl, zat, if_neg a0, if_neg a1, if_neg a2, if_neg a3, if_neg a4, e1, e2, e3, e4, if_pos b]
theorem uvl_7 (n : Nat) (h : ¬ n < 4398046511104) (h2 : n < 562949953421312) : uvl n = [UInt8.ofNat (n % 128 + 128), UInt8.ofNat (n / 128 % 128 + 128), UInt8.ofNat (n / 16384 % 128 + 128), UInt8.ofNat (n / 2097152 % 128 + 128), UInt8.ofNat (n / 268435456 % 128 + 128), UInt8.ofNat (n / 34359738368 % 128 + 128), UInt8.ofNat (n / 4398046511104)] := by
  have a0 : ¬ n < 128 := by omega
  have a1 : ¬ n / 128 < 128 := by omega
  have a2 : ¬ n / 16384 < 128 := by omega
  have a3 : ¬ n / 2097152 < 128 := by omega
  have a4 : ¬ n / 268435456 < 128 := by omega
  have a5 : ¬ n / 34359738368 < 128 := by omega
  have b : n / 4398046511104 < 128 := by omega
  have e1 : n / 128 / 128 = n / 16384 := by omega
  have e2 : n / 16384 / 128 = n / 2097152 := by omega
  have e3 : n / 2097152 / 128 = n / 268435456 := by omega
  have e4 : n / 268435456 / 128 = n / 34359738368 := by omega
  have e5 : n / 34359738368 / 128 = n / 4398046511104 := by omega
  simp only [uvl, zat, if_neg a0, if_neg a1, if_neg a2, if_neg a3, if_neg a4, if_neg a5, e1, e2, e3, e4, e5, if_pos b]
theorem uvl_8 (n : Nat) (h : ¬ n < 562949953421312) (h2 : n < 72057594037927936) : uvl n = [UInt8.ofNat (n % 128 + 128), UInt8.ofNat (n / 128 % 128 + 128), UInt8.ofNat (n / 16384 % 128 + 128), UInt8.ofNat (n / 2097152 % 128 + 128), UInt8.ofNat (n / 268435456 % 128 + 128), UInt8.ofNat (n / 34359738368 % 128 + 128), UInt8.ofNat (n / 4398046511104 % 128 + 128), UInt8.ofNat (n / 562949953421312)] := by
  have a0 : ¬ n < 128 := by omega
  have a1 : ¬ n / 128 < 128 := by omega
  have a2 : ¬ n / 16384 < 128 := by omega
  have a3 : ¬ n / 2097152 < 128 := by omega
  have a4 : ¬ n / 268435456 < 128 := by omega
  have a5 : ¬ n / 34359738368 < 128 := by omega
  have a6 : ¬ n / 4398046511104 < 128 := by omega
  have b : n / 562949953421312 < 128 := by omega
  have e1 : n / 128 / 128 = n / 16384 := by omega
  have e2 : n / 16384 / 128 = n / 2097152 := by omega
  have e3 : n / 2097152 / 128 = n / 268435456 := by omega
  have e4 : n / 268435456 / 128 = n / 34359738368 := by omega
  have e5 : n / 34359738368 / 128 = n / 4398046511104 := by omega
  have e6 : n / 4398046511104 / 128 = n / 562949953421312 := by omega
  simp only [uvl, zat, if_neg a0, if_neg a1, if_neg a2, if_neg a3, if_neg a4, if_neg a5, if_neg a6, e1, e2, e3, e4, e5, e6, if_pos b]
theorem uvl_9 (n : Nat) (h : ¬ n < 72057594037927936) (h2 : n < 9223372036854775808) : uvl n = [UInt8.ofNat (n % 128 + 128), UInt8.ofNat (n / 128 % 128 + 128), UInt8.ofNat (n / 16384 % 128 + 128), UInt8.ofNat (n / 2097152 % 128 + 128), UInt8.ofNat (n / 268435456 % 128 + 128), UInt8.ofNat (n / 34359738368 % 128 + 128), UInt8.ofNat (n / 4398046511104 % 128 + 128), UInt8.ofNat (n / 562949953421312 % 128 + 128), UInt8.ofNat (n / 72057594037927936)] := by
  have a0 : ¬ n < 128 := by omega
  have a1 : ¬ n / 128 < 128 := by omega
  have a2 : ¬ n / 16384 < 128 := by omega
  have a3 : ¬ n / 2097152 < 128 := by omega
  have a4 : ¬ n / 268435456 < 128 := by omega
  have a5 : ¬ n / 34359738368 < 128 := by omega
  have a6 : ¬ n / 4398046511104 < 128 := by omega
  have a7 : ¬ n / 562949953421312 < 128 := by omega
  have b : n / 72057594037927936 < 128 := by omega
  have e1 : n / 128 / 128 = n / 16384 := by omega
  have e2 : n / 16384 / 128 = n / 2097152 := by omega
  have e3 : n / 2097152 / 128 = n / 268435456 := by omega
  have e4 : n / 268435456 / 128 = n / 34359738368 := by omega
  have e5 : n / 34359738368 / 128 = n / 4398046511104 := by omega
  have e6 : n / 4398046511104 / 128 = n / 562949953421312 := by omega
  have e7 : n / 562949953421312 / 128 = n / 72057594037927936 := by omega
  simp only [uvl, zat, if_neg a0, if_neg a1, if_neg a2, if_neg a3, if_neg a4, if_neg a5, if_neg a6, if_neg a7, e1, e2, e3, e4, e5, e6, e7, if_pos b]
theorem uvl_10 (n : Nat) (h : ¬ n < 9223372036854775808) : uvl n = [UInt8.ofNat (n % 128 + 128), UInt8.ofNat (n / 128 % 128 + 128), UInt8.ofNat (n / 16384 % 128 + 128), UInt8.ofNat (n / 2097152 % 128 + 128), UInt8.ofNat (n / 268435456 % 128 + 128), UInt8.ofNat (n / 34359738368 % 128 + 128), UInt8.ofNat (n / 4398046511104 % 128 + 128), UInt8.ofNat (n / 562949953421312 % 128 + 128), UInt8.ofNat (n / 72057594037927936 % 128 + 128), UInt8.ofNat (n / 9223372036854775808)] := by
  have a0 : ¬ n < 128 := by omega
  have a1 : ¬ n / 128 < 128 := by omega
  have a2 : ¬ n / 16384 < 128 := by omega
  have a3 : ¬ n / 2097152 < 128 := by omega
  have a4 : ¬ n / 268435456 < 128 := by omega
  have a5 : ¬ n / 34359738368 < 128 := by omega
  have a6 : ¬ n / 4398046511104 < 128 := by omega
  have a7 : ¬ n / 562949953421312 < 128 := by omega
  have a8 : ¬ n / 72057594037927936 < 128 := by omega
  have e1 : n / 128 / 128 = n / 16384 := by omega
  have e2 : n / 16384 / 128 = n / 2097152 := by omega
  have e3 : n / 2097152 / 128 = n / 268435456 := by omega
  have e4 : n / 268435456 / 128 = n / 34359738368 := by omega
  have e5 : n / 34359738368 / 128 = n / 4398046511104 := by omega
  have e6 : n / 4398046511104 / 128 = n / 562949953421312 := by omega
  have e7 : n / 562949953421312 / 128 = n / 72057594037927936 := by omega
  have e8 : n / 72057594037927936 / 128 = n / 9223372036854775808 := by omega
  simp only [uvl, zat, if_neg a0, if_neg a1, if_neg a2, if_neg a3, if_neg a4, if_neg a5, if_neg a6, if_neg a7, if_neg a8, e1, e2, e3, e4, e5, e6, e7, e8]
theorem shN1 (n : Nat) : (n : Int) / 128 = ((n / 128 : Nat) : Int) := rfl
theorem shN2 (n : Nat) : (n : Int) / 16384 = ((n / 16384 : Nat) : Int) := rfl
theorem shN3 (n : Nat) : (n : Int) / 2097152 = ((n / 2097152 : Nat) : Int) := rfl
theorem shN4 (n : Nat) : (n : Int) / 268435456 = ((n / 268435456 : Nat) : Int) := rfl
theorem shN5 (n : Nat) : (n : Int) / 34359738368 = ((n / 34359738368 : Nat) : Int) := rfl
theorem shN6 (n : Nat) : (n : Int) / 4398046511104 = ((n / 4398046511104 : Nat) : Int) := rfl
theorem shN7 (n : Nat) : (n : Int) / 562949953421312 = ((n / 562949953421312 : Nat) : Int) := rfl
theorem shN8 (n : Nat) : (n : Int) / 72057594037927936 = ((n / 72057594037927936 : Nat) : Int) := rfl
theorem shN9 (n : Nat) : (n : Int) / 9223372036854775808 = ((n / 9223372036854775808 : Nat) : Int) := rfl
theorem appendUvarlong_c (n : Nat) (hn : n < 18446744073709551616) : AppC 46 [.int .u64 n] (uvl n) (fun _ => True) := by
  intro w base v bs hown hlim hb hpre
  refine zaj Tryd.func46 rfl rfl Tryd.ntmps46 (by simp) ?_
  intro a hN hD ha
  have h0 : get a 0 = v := ha 0 _ rfl
  have h1 : get a 1 = .int .u64 n := ha 1 _ rfl
  refine wp_seq_k fun K hK => ?_; refine zac ?_; refine zaF ?_; refine zaa ?_; refine hK _ _ ?_; clear hK K
  have hu := uvarlongLen_c n hn w
  by_cases c1 : n < 128
  · have e : ulen64 n = 1 := by unfold ulen64; rw [if_pos c1]
    have eu := uvl_1 n c1
    rw [e] at hu
    rw [eu] at hlim ⊢
    refine wp_seq_k fun K hK => ?_; refine wp_seq_k fun K hK => ?_; refine zac ?_; (repeat (first | ((with_reducible refine zav ?_ ?_ ?_ ?_); (· exact rfl); (· simp [evb, kb, hN, h0, h1, dyb, sdb] <;> omega); (· kernel_rfl); try simp only [evb, kb, hN, seval, pvb, h0, h1]) | ((with_reducible refine zag ?_ ?_ ?_); rotate_left 1; (· simp [evb, kb, hN, h0, h1, sdb]); rotate_left 1; (· kernel_rfl); try simp only [evb, kb, hN, seval, pvb, h0, h1]) | ((with_reducible first | refine zai ?_ ?_ ?_ | refine zad ?_ ?_ | refine zae ?_ ?_ ?_) <;> (first | (with_reducible refine zal ?_; try simp only [evb, kb, hN, seval, pvb, h0, h1]) | (simp [evb, kb, hN, h0, h1, sdb] <;> omega)))))
    refine zak (fun args w => Tryd.call67 args w) (by simp [evb, kb, hN, seval, h1]; exact hu) ?_
    rintro x w1 ⟨rfl, rfl⟩
    refine zaa ?_; refine hK _ _ ?_; clear hK K
    refine wp_block ?_
    refine wp_seq_k fun K hK => ?_; refine zac ?_; (repeat (first | ((with_reducible refine zav ?_ ?_ ?_ ?_); (· exact rfl); (· simp [evb, kb, hN, dyb, sdb] <;> omega); (· kernel_rfl); try simp only [evb, kb, hN, seval, pvb]) | ((with_reducible refine zag ?_ ?_ ?_); rotate_left 1; (· simp [evb, kb, hN, sdb]); rotate_left 1; (· kernel_rfl); try simp only [evb, kb, hN, seval, pvb]) | ((with_reducible first | refine zai ?_ ?_ ?_ | refine zad ?_ ?_ | refine zae ?_ ?_ ?_) <;> (first | (with_reducible refine zal ?_; try simp only [evb, kb, hN, seval, pvb]) | (simp [evb, kb, hN, sdb] <;> omega))))); refine zaa ?_; refine hK _ _ ?_; clear hK K
    refine wp_cond_false (by simp [evb, kb, hN, sdb]) ?_
    refine wp_seq_k fun K hK => ?_; refine zac ?_; (repeat (first | ((with_reducible refine zav ?_ ?_ ?_ ?_); (· exact rfl); (· simp [evb, kb, hN, dyb, sdb] <;> omega); (· kernel_rfl); try simp only [evb, kb, hN, seval, pvb]) | ((with_reducible refine zag ?_ ?_ ?_); rotate_left 1; (· simp [evb, kb, hN, sdb]); rotate_left 1; (· kernel_rfl); try simp only [evb, kb, hN, seval, pvb]) | ((with_reducible first | refine zai ?_ ?_ ?_ | refine zad ?_ ?_ | refine zae ?_ ?_ ?_) <;> (first | (with_reducible refine zal ?_; try simp only [evb, kb, hN, seval, pvb]) | (simp [evb, kb, hN, sdb] <;> omega))))); refine zaa ?_; refine hK _ _ ?_; clear hK K
    refine wp_cond_false (by simp [evb, kb, hN, sdb]) ?_
    refine wp_seq_k fun K hK => ?_; refine zac ?_; (repeat (first | ((with_reducible refine zav ?_ ?_ ?_ ?_); (· exact rfl); (· simp [evb, kb, hN, dyb, sdb] <;> omega); (· kernel_rfl); try simp only [evb, kb, hN, seval, pvb]) | ((with_reducible refine zag ?_ ?_ ?_); rotate_left 1; (· simp [evb, kb, hN, sdb]); rotate_left 1; (· kernel_rfl); try simp only [evb, kb, hN, seval, pvb]) | ((with_reducible first | refine zai ?_ ?_ ?_ | refine zad ?_ ?_ | refine zae ?_ ?_ ?_) <;> (first | (with_reducible refine zal ?_; try simp only [evb, kb, hN, seval, pvb]) | (simp [evb, kb, hN, sdb] <;> omega))))); refine zaa ?_; refine hK _ _ ?_; clear hK K
    refine wp_cond_false (by simp [evb, kb, hN, sdb]) ?_
    refine wp_seq_k fun K hK => ?_; refine zac ?_; (repeat (first | ((with_reducible refine zav ?_ ?_ ?_ ?_); (· exact rfl); (· simp [evb, kb, hN, dyb, sdb] <;> omega); (· kernel_rfl); try simp only [evb, kb, hN, seval, pvb]) | ((with_reducible refine zag ?_ ?_ ?_); rotate_left 1; (· simp [evb, kb, hN, sdb]); rotate_left 1; (· kernel_rfl); try simp only [evb, kb, hN, seval, pvb]) | ((with_reducible first | refine zai ?_ ?_ ?_ | refine zad ?_ ?_ | refine zae ?_ ?_ ?_) <;> (first | (with_reducible refine zal ?_; try simp only [evb, kb, hN, seval, pvb]) | (simp [evb, kb, hN, sdb] <;> omega))))); refine zaa ?_; refine hK _ _ ?_; clear hK K
    refine wp_cond_false (by simp [evb, kb, hN, sdb]) ?_
    refine wp_seq_k fun K hK => ?_; refine zac ?_; (repeat (first | ((with_reducible refine zav ?_ ?_ ?_ ?_); (· exact rfl); (· simp [evb, kb, hN, dyb, sdb] <;> omega); (· kernel_rfl); try simp only [evb, kb, hN, seval, pvb]) | ((with_reducible refine zag ?_ ?_ ?_); rotate_left 1; (· simp [evb, kb, hN, sdb]); rotate_left 1; (· kernel_rfl); try simp only [evb, kb, hN, seval, pvb]) | ((with_reducible first | refine zai ?_ ?_ ?_ | refine zad ?_ ?_ | refine zae ?_ ?_ ?_) <;> (first | (with_reducible refine zal ?_; try simp only [evb, kb, hN, seval, pvb]) | (simp [evb, kb, hN, sdb] <;> omega))))); refine zaa ?_; refine hK _ _ ?_; clear hK K
    refine wp_cond_false (by simp [evb, kb, hN, sdb]) ?_
    refine wp_seq_k fun K hK => ?_; refine zac ?_; (repeat (first | ((with_reducible refine zav ?_ ?_ ?_ ?_); (· exact rfl); (· simp [evb, kb, hN, dyb, sdb] <;> omega); (· kernel_rfl); try simp only [evb, kb, hN, seval, pvb]) | ((with_reducible refine zag ?_ ?_ ?_); rotate_left 1; (· simp [evb, kb, hN, sdb]); rotate_left 1; (· kernel_rfl); try simp only [evb, kb, hN, seval, pvb]) | ((with_reducible first | refine zai ?_ ?_ ?_ | refine zad ?_ ?_ | refine zae ?_ ?_ ?_) <;> (first | (with_reducible refine zal ?_; try simp only [evb, kb, hN, seval, pvb]) | (simp [evb, kb, hN, sdb] <;> omega))))); refine zaa ?_; refine hK _ _ ?_; clear hK K
    refine wp_cond_false (by simp [evb, kb, hN, sdb]) ?_
    refine wp_seq_k fun K hK => ?_; refine zac ?_; (repeat (first | ((with_reducible refine zav ?_ ?_ ?_ ?_); (· exact rfl); (· simp [evb, kb, hN, dyb, sdb] <;> omega); (· kernel_rfl); try simp only [evb, kb, hN, seval, pvb]) | ((with_reducible refine zag ?_ ?_ ?_); rotate_left 1; (· simp [evb, kb, hN, sdb]); rotate_left 1; (· kernel_rfl); try simp only [evb, kb, hN, seval, pvb]) | ((with_reducible first | refine zai ?_ ?_ ?_ | refine zad ?_ ?_ | refine zae ?_ ?_ ?_) <;> (first | (with_reducible refine zal ?_; try simp only [evb, kb, hN, seval, pvb]) | (simp [evb, kb, hN, sdb] <;> omega))))); refine zaa ?_; refine hK _ _ ?_; clear hK K
    refine wp_cond_false (by simp [evb, kb, hN, sdb]) ?_
    refine wp_seq_k fun K hK => ?_; refine zac ?_; (repeat (first | ((with_reducible refine zav ?_ ?_ ?_ ?_); (· exact rfl); (· simp [evb, kb, hN, dyb, sdb] <;> omega); (· kernel_rfl); try simp only [evb, kb, hN, seval, pvb]) | ((with_reducible refine zag ?_ ?_ ?_); rotate_left 1; (· simp [evb, kb, hN, sdb]); rotate_left 1; (· kernel_rfl); try simp only [evb, kb, hN, seval, pvb]) | ((with_reducible first | refine zai ?_ ?_ ?_ | refine zad ?_ ?_ | refine zae ?_ ?_ ?_) <;> (first | (with_reducible refine zal ?_; try simp only [evb, kb, hN, seval, pvb]) | (simp [evb, kb, hN, sdb] <;> omega))))); refine zaa ?_; refine hK _ _ ?_; clear hK K
    refine wp_cond_false (by simp [evb, kb, hN, sdb]) ?_
    refine wp_seq_k fun K hK => ?_; refine zac ?_; (repeat (first | ((with_reducible refine zav ?_ ?_ ?_ ?_); (· exact rfl); (· simp [evb, kb, hN, dyb, sdb] <;> omega); (· kernel_rfl); try simp only [evb, kb, hN, seval, pvb]) | ((with_reducible refine zag ?_ ?_ ?_); rotate_left 1; (· simp [evb, kb, hN, sdb]); rotate_left 1; (· kernel_rfl); try simp only [evb, kb, hN, seval, pvb]) | ((with_reducible first | refine zai ?_ ?_ ?_ | refine zad ?_ ?_ | refine zae ?_ ?_ ?_) <;> (first | (with_reducible refine zal ?_; try simp only [evb, kb, hN, seval, pvb]) | (simp [evb, kb, hN, sdb] <;> omega))))); refine zaa ?_; refine hK _ _ ?_; clear hK K
    refine wp_cond_false (by simp [evb, kb, hN, sdb]) ?_
    refine wp_seq_k fun K hK => ?_; refine zac ?_; (repeat (first | ((with_reducible refine zav ?_ ?_ ?_ ?_); (· exact rfl); (· simp [evb, kb, hN, dyb, sdb] <;> omega); (· kernel_rfl); try simp only [evb, kb, hN, seval, pvb]) | ((with_reducible refine zag ?_ ?_ ?_); rotate_left 1; (· simp [evb, kb, hN, sdb]); rotate_left 1; (· kernel_rfl); try simp only [evb, kb, hN, seval, pvb]) | ((with_reducible first | refine zai ?_ ?_ ?_ | refine zad ?_ ?_ | refine zae ?_ ?_ ?_) <;> (first | (with_reducible refine zal ?_; try simp only [evb, kb, hN, seval, pvb]) | (simp [evb, kb, hN, sdb] <;> omega))))); refine zaa ?_; refine hK _ _ ?_; clear hK K
    refine wp_cond_true (by simp [evb, kb, hN, sdb]) ?_
    refine wp_seq_k fun K hK => ?_; refine zac ?_; (repeat (first | ((with_reducible refine zav ?_ ?_ ?_ ?_); (· exact rfl); (· simp [evb, kb, hN, h0, h1, dyb, sdb] <;> omega); (· kernel_rfl); try simp only [evb, kb, hN, seval, pvb, h0, h1]) | ((with_reducible refine zag ?_ ?_ ?_); rotate_left 1; (· simp [evb, kb, hN, h0, h1, sdb]); rotate_left 1; (· kernel_rfl); try simp only [evb, kb, hN, seval, pvb, h0, h1]) | ((with_reducible first | refine zai ?_ ?_ ?_ | refine zad ?_ ?_ | refine zae ?_ ?_ ?_) <;> (first | (with_reducible refine zal ?_; try simp only [evb, kb, hN, seval, pvb, h0, h1]) | (simp [evb, kb, hN, h0, h1, sdb] <;> omega)))))
    refine zaO [UInt8.ofNat n] (by simp [-UInt8.ofNat_add, evb, kb, hN, seval, h1, IntKind.bits, List.zipIdx]; simp only [bw_or, bw_id n (by omega), and_self, and_true]) rfl (by simp) (by simp [evb, kb, hN, h0, h1, sdb]) (by simp [zaf, hN]) hown hlim hb ?_
    intro v' w' happ
    (repeat (first | ((with_reducible refine zav ?_ ?_ ?_ ?_); (· exact rfl); (· simp [evb, kb, hN, dyb, sdb] <;> omega); (· kernel_rfl); try simp only [evb, kb, hN, seval, pvb]) | ((with_reducible refine zag ?_ ?_ ?_); rotate_left 1; (· simp [evb, kb, hN, sdb]); rotate_left 1; (· kernel_rfl); try simp only [evb, kb, hN, seval, pvb]) | ((with_reducible first | refine zai ?_ ?_ ?_ | refine zad ?_ ?_ | refine zae ?_ ?_ ?_) <;> (first | (with_reducible refine zal ?_; try simp only [evb, kb, hN, seval, pvb]) | (simp [evb, kb, hN, sdb] <;> omega))))); refine zaa ?_; refine hK _ _ ?_; clear hK K; refine wp_ret ⟨by simp [zab, hD], ?_⟩; simp only [evb, kb, hN, seval]
    exact happ
  by_cases c2 : n < 16384
  · have e : ulen64 n = 2 := by unfold ulen64; rw [if_neg c1, if_pos c2]
    have eu := uvl_2 n c1 c2
    rw [e] at hu
    rw [eu] at hlim ⊢
    refine wp_seq_k fun K hK => ?_; refine wp_seq_k fun K hK => ?_; refine zac ?_; (repeat (first | ((with_reducible refine zav ?_ ?_ ?_ ?_); (· exact rfl); (· simp [evb, kb, hN, h0, h1, dyb, sdb] <;> omega); (· kernel_rfl); try simp only [evb, kb, hN, seval, pvb, h0, h1]) | ((with_reducible refine zag ?_ ?_ ?_); rotate_left 1; (· simp [evb, kb, hN, h0, h1, sdb]); rotate_left 1; (· kernel_rfl); try simp only [evb, kb, hN, seval, pvb, h0, h1]) | ((with_reducible first | refine zai ?_ ?_ ?_ | refine zad ?_ ?_ | refine zae ?_ ?_ ?_) <;> (first | (with_reducible refine zal ?_; try simp only [evb, kb, hN, seval, pvb, h0, h1]) | (simp [evb, kb, hN, h0, h1, sdb] <;> omega)))))
    refine zak (fun args w => Tryd.call67 args w) (by simp [evb, kb, hN, seval, h1]; exact hu) ?_
    rintro x w1 ⟨rfl, rfl⟩
    refine zaa ?_; refine hK _ _ ?_; clear hK K
    refine wp_block ?_
    refine wp_seq_k fun K hK => ?_; refine zac ?_; (repeat (first | ((with_reducible refine zav ?_ ?_ ?_ ?_); (· exact rfl); (· simp [evb, kb, hN, dyb, sdb] <;> omega); (· kernel_rfl); try simp only [evb, kb, hN, seval, pvb]) | ((with_reducible refine zag ?_ ?_ ?_); rotate_left 1; (· simp [evb, kb, hN, sdb]); rotate_left 1; (· kernel_rfl); try simp only [evb, kb, hN, seval, pvb]) | ((with_reducible first | refine zai ?_ ?_ ?_ | refine zad ?_ ?_ | refine zae ?_ ?_ ?_) <;> (first | (with_reducible refine zal ?_; try simp only [evb, kb, hN, seval, pvb]) | (simp [evb, kb, hN, sdb] <;> omega))))); refine zaa ?_; refine hK _ _ ?_; clear hK K
    refine wp_cond_false (by simp [evb, kb, hN, sdb]) ?_
    refine wp_seq_k fun K hK => ?_; refine zac ?_; (repeat (first | ((with_reducible refine zav ?_ ?_ ?_ ?_); (· exact rfl); (· simp [evb, kb, hN, dyb, sdb] <;> omega); (· kernel_rfl); try simp only [evb, kb, hN, seval, pvb]) | ((with_reducible refine zag ?_ ?_ ?_); rotate_left 1; (· simp [evb, kb, hN, sdb]); rotate_left 1; (· kernel_rfl); try simp only [evb, kb, hN, seval, pvb]) | ((with_reducible first | refine zai ?_ ?_ ?_ | refine zad ?_ ?_ | refine zae ?_ ?_ ?_) <;> (first | (with_reducible refine zal ?_; try simp only [evb, kb, hN, seval, pvb]) | (simp [evb, kb, hN, sdb] <;> omega))))); refine zaa ?_; refine hK _ _ ?_; clear hK K
    refine wp_cond_false (by simp [evb, kb, hN, sdb]) ?_
    refine wp_seq_k fun K hK => ?_; refine zac ?_; (repeat (first | ((with_reducible refine zav ?_ ?_ ?_ ?_); (· exact rfl); (· simp [evb, kb, hN, dyb, sdb] <;> omega); (· kernel_rfl); try simp only [evb, kb, hN, seval, pvb]) | ((with_reducible refine zag ?_ ?_ ?_); rotate_left 1; (· simp [evb, kb, hN, sdb]); rotate_left 1; (· kernel_rfl); try simp only [evb, kb, hN, seval, pvb]) | ((with_reducible first | refine zai ?_ ?_ ?_ | refine zad ?_ ?_ | refine zae ?_ ?_ ?_) <;> (first | (with_reducible refine zal ?_; try simp only [evb, kb, hN, seval, pvb]) | (simp [evb, kb, hN, sdb] <;> omega))))); refine zaa ?_; refine hK _ _ ?_; clear hK K
    refine wp_cond_false (by simp [evb, kb, hN, sdb]) ?_
    refine wp_seq_k fun K hK => ?_; refine zac ?_; (repeat (first | ((with_reducible refine zav ?_ ?_ ?_ ?_); (· exact rfl); (· simp [evb, kb, hN, dyb, sdb] <;> omega); (· kernel_rfl); try simp only [evb, kb, hN, seval, pvb]) | ((with_reducible refine zag ?_ ?_ ?_); rotate_left 1; (· simp [evb, kb, hN, sdb]); rotate_left 1; (· kernel_rfl); try simp only [evb, kb, hN, seval, pvb]) | ((with_reducible first | refine zai ?_ ?_ ?_ | refine zad ?_ ?_ | refine zae ?_ ?_ ?_) <;> (first | (with_reducible refine zal ?_; try simp only [evb, kb, hN, seval, pvb]) | (simp [evb, kb, hN, sdb] <;> omega))))); refine zaa ?_; refine hK _ _ ?_; clear hK K
    refine wp_cond_false (by simp [evb, kb, hN, sdb]) ?_
    refine wp_seq_k fun K hK => ?_; refine zac ?_; (repeat (first | ((with_reducible refine zav ?_ ?_ ?_ ?_); (· exact rfl); (· simp [evb, kb, hN, dyb, sdb] <;> omega); (· kernel_rfl); try simp only [evb, kb, hN, seval, pvb]) | ((with_reducible refine zag ?_ ?_ ?_); rotate_left 1; (· simp [evb, kb, hN, sdb]); rotate_left 1; (· kernel_rfl); try simp only [evb, kb, hN, seval, pvb]) | ((with_reducible first | refine zai ?_ ?_ ?_ | refine zad ?_ ?_ | refine zae ?_ ?_ ?_) <;> (first | (with_reducible refine zal ?_; try simp only [evb, kb, hN, seval, pvb]) | (simp [evb, kb, hN, sdb] <;> omega))))); refine zaa ?_; refine hK _ _ ?_; clear hK K
    refine wp_cond_false (by simp [evb, kb, hN, sdb]) ?_
    refine wp_seq_k fun K hK => ?_; refine zac ?_; (repeat (first | ((with_reducible refine zav ?_ ?_ ?_ ?_); (· exact rfl); (· simp [evb, kb, hN, dyb, sdb] <;> omega); (· kernel_rfl); try simp only [evb, kb, hN, seval, pvb]) | ((with_reducible refine zag ?_ ?_ ?_); rotate_left 1; (· simp [evb, kb, hN, sdb]); rotate_left 1; (· kernel_rfl); try simp only [evb, kb, hN, seval, pvb]) | ((with_reducible first | refine zai ?_ ?_ ?_ | refine zad ?_ ?_ | refine zae ?_ ?_ ?_) <;> (first | (with_reducible refine zal ?_; try simp only [evb, kb, hN, seval, pvb]) | (simp [evb, kb, hN, sdb] <;> omega))))); refine zaa ?_; refine hK _ _ ?_; clear hK K
    refine wp_cond_false (by simp [evb, kb, hN, sdb]) ?_
    refine wp_seq_k fun K hK => ?_; refine zac ?_; (repeat (first | ((with_reducible refine zav ?_ ?_ ?_ ?_); (· exact rfl); (· simp [evb, kb, hN, dyb, sdb] <;> omega); (· kernel_rfl); try simp only [evb, kb, hN, seval, pvb]) | ((with_reducible refine zag ?_ ?_ ?_); rotate_left 1; (· simp [evb, kb, hN, sdb]); rotate_left 1; (· kernel_rfl); try simp only [evb, kb, hN, seval, pvb]) | ((with_reducible first | refine zai ?_ ?_ ?_ | refine zad ?_ ?_ | refine zae ?_ ?_ ?_) <;> (first | (with_reducible refine zal ?_; try simp only [evb, kb, hN, seval, pvb]) | (simp [evb, kb, hN, sdb] <;> omega))))); refine zaa ?_; refine hK _ _ ?_; clear hK K
    refine wp_cond_false (by simp [evb, kb, hN, sdb]) ?_
    refine wp_seq_k fun K hK => ?_; refine zac ?_; (repeat (first | ((with_reducible refine zav ?_ ?_ ?_ ?_); (· exact rfl); (· simp [evb, kb, hN, dyb, sdb] <;> omega); (· kernel_rfl); try simp only [evb, kb, hN, seval, pvb]) | ((with_reducible refine zag ?_ ?_ ?_); rotate_left 1; (· simp [evb, kb, hN, sdb]); rotate_left 1; (· kernel_rfl); try simp only [evb, kb, hN, seval, pvb]) | ((with_reducible first | refine zai ?_ ?_ ?_ | refine zad ?_ ?_ | refine zae ?_ ?_ ?_) <;> (first | (with_reducible refine zal ?_; try simp only [evb, kb, hN, seval, pvb]) | (simp [evb, kb, hN, sdb] <;> omega))))); refine zaa ?_; refine hK _ _ ?_; clear hK K
    refine wp_cond_false (by simp [evb, kb, hN, sdb]) ?_
    refine wp_seq_k fun K hK => ?_; refine zac ?_; (repeat (first | ((with_reducible refine zav ?_ ?_ ?_ ?_); (· exact rfl); (· simp [evb, kb, hN, dyb, sdb] <;> omega); (· kernel_rfl); try simp only [evb, kb, hN, seval, pvb]) | ((with_reducible refine zag ?_ ?_ ?_); rotate_left 1; (· simp [evb, kb, hN, sdb]); rotate_left 1; (· kernel_rfl); try simp only [evb, kb, hN, seval, pvb]) | ((with_reducible first | refine zai ?_ ?_ ?_ | refine zad ?_ ?_ | refine zae ?_ ?_ ?_) <;> (first | (with_reducible refine zal ?_; try simp only [evb, kb, hN, seval, pvb]) | (simp [evb, kb, hN, sdb] <;> omega))))); refine zaa ?_; refine hK _ _ ?_; clear hK K
    refine wp_cond_true (by simp [evb, kb, hN, sdb]) ?_
    refine wp_seq_k fun K hK => ?_; refine zac ?_; (repeat (first | ((with_reducible refine zav ?_ ?_ ?_ ?_); (· exact rfl); (· simp [evb, kb, hN, h0, h1, dyb, sdb] <;> omega); (· kernel_rfl); try simp only [evb, kb, hN, seval, pvb, h0, h1]) | ((with_reducible refine zag ?_ ?_ ?_); rotate_left 1; (· simp [evb, kb, hN, h0, h1, sdb]); rotate_left 1; (· kernel_rfl); try simp only [evb, kb, hN, seval, pvb, h0, h1]) | ((with_reducible first | refine zai ?_ ?_ ?_ | refine zad ?_ ?_ | refine zae ?_ ?_ ?_) <;> (first | (with_reducible refine zal ?_; try simp only [evb, kb, hN, seval, pvb, h0, h1]) | (simp [evb, kb, hN, h0, h1, sdb] <;> omega)))))
    refine zaO [UInt8.ofNat (n % 128 + 128), UInt8.ofNat (n / 128)] (by simp [-UInt8.ofNat_add, evb, kb, hN, seval, h1, IntKind.bits, List.zipIdx]; simp only [shN1, bw_or, bw_id (n / 128) (by omega), and_self, and_true]) rfl (by simp) (by simp [evb, kb, hN, h0, h1, sdb]) (by simp [zaf, hN]) hown hlim hb ?_
    intro v' w' happ
    (repeat (first | ((with_reducible refine zav ?_ ?_ ?_ ?_); (· exact rfl); (· simp [evb, kb, hN, dyb, sdb] <;> omega); (· kernel_rfl); try simp only [evb, kb, hN, seval, pvb]) | ((with_reducible refine zag ?_ ?_ ?_); rotate_left 1; (· simp [evb, kb, hN, sdb]); rotate_left 1; (· kernel_rfl); try simp only [evb, kb, hN, seval, pvb]) | ((with_reducible first | refine zai ?_ ?_ ?_ | refine zad ?_ ?_ | refine zae ?_ ?_ ?_) <;> (first | (with_reducible refine zal ?_; try simp only [evb, kb, hN, seval, pvb]) | (simp [evb, kb, hN, sdb] <;> omega))))); refine zaa ?_; refine hK _ _ ?_; clear hK K; refine wp_ret ⟨by simp [zab, hD], ?_⟩; simp only [evb, kb, hN, seval]
    exact happ
  by_cases c3 : n < 2097152
  · have e : ulen64 n = 3 := by unfold ulen64; rw [if_neg c1, if_neg c2, if_pos c3]
    have eu := uvl_3 n c2 c3
    rw [e] at hu
    rw [eu] at hlim ⊢
    refine wp_seq_k fun K hK => ?_; refine wp_seq_k fun K hK => ?_; refine zac ?_; (repeat (first | ((with_reducible refine zav ?_ ?_ ?_ ?_); (· exact rfl); (· simp [evb, kb, hN, h0, h1, dyb, sdb] <;> omega); (· kernel_rfl); try simp only [evb, kb, hN, seval, pvb, h0, h1]) | ((with_reducible refine zag ?_ ?_ ?_); rotate_left 1; (· simp [evb, kb, hN, h0, h1, sdb]); rotate_left 1; (· kernel_rfl); try simp only [evb, kb, hN, seval, pvb, h0, h1]) | ((with_reducible first | refine zai ?_ ?_ ?_ | refine zad ?_ ?_ | refine zae ?_ ?_ ?_) <;> (first | (with_reducible refine zal ?_; try simp only [evb, kb, hN, seval, pvb, h0, h1]) | (simp [evb, kb, hN, h0, h1, sdb] <;> omega)))))
    refine zak (fun args w => Tryd.call67 args w) (by simp [evb, kb, hN, seval, h1]; exact hu) ?_
    rintro x w1 ⟨rfl, rfl⟩
    refine zaa ?_; refine hK _ _ ?_; clear hK K
    refine wp_block ?_
    refine wp_seq_k fun K hK => ?_; refine zac ?_; (repeat (first | ((with_reducible refine zav ?_ ?_ ?_ ?_); (· exact rfl); (· simp [evb, kb, hN, dyb, sdb] <;> omega); (· kernel_rfl); try simp only [evb, kb, hN, seval, pvb]) | ((with_reducible refine zag ?_ ?_ ?_); rotate_left 1; (· simp [evb, kb, hN, sdb]); rotate_left 1; (· kernel_rfl); try simp only [evb, kb, hN, seval, pvb]) | ((with_reducible first | refine zai ?_ ?_ ?_ | refine zad ?_ ?_ | refine zae ?_ ?_ ?_) <;> (first | (with_reducible refine zal ?_; try simp only [evb, kb, hN, seval, pvb]) | (simp [evb, kb, hN, sdb] <;> omega))))); refine zaa ?_; refine hK _ _ ?_; clear hK K
    refine wp_cond_false (by simp [evb, kb, hN, sdb]) ?_
    refine wp_seq_k fun K hK => ?_; refine zac ?_; (repeat (first | ((with_reducible refine zav ?_ ?_ ?_ ?_); (· exact rfl); (· simp [evb, kb, hN, dyb, sdb] <;> omega); (· kernel_rfl); try simp only [evb, kb, hN, seval, pvb]) | ((with_reducible refine zag ?_ ?_ ?_); rotate_left 1; (· simp [evb, kb, hN, sdb]); rotate_left 1; (· kernel_rfl); try simp only [evb, kb, hN, seval, pvb]) | ((with_reducible first | refine zai ?_ ?_ ?_ | refine zad ?_ ?_ | refine zae ?_ ?_ ?_) <;> (first | (with_reducible refine zal ?_; try simp only [evb, kb, hN, seval, pvb]) | (simp [evb, kb, hN, sdb] <;> omega))))); refine zaa ?_; refine hK _ _ ?_; clear hK K
    refine wp_cond_false (by simp [evb, kb, hN, sdb]) ?_
    refine wp_seq_k fun K hK => ?_; refine zac ?_; (repeat (first | ((with_reducible refine zav ?_ ?_ ?_ ?_); (· exact rfl); (· simp [evb, kb, hN, dyb, sdb] <;> omega); (· kernel_rfl); try simp only [evb, kb, hN, seval, pvb]) | ((with_reducible refine zag ?_ ?_ ?_); rotate_left 1; (· simp [evb, kb, hN, sdb]); rotate_left 1; (· kernel_rfl); try simp only [evb, kb, hN, seval, pvb]) | ((with_reducible first | refine zai ?_ ?_ ?_ | refine zad ?_ ?_ | refine zae ?_ ?_ ?_) <;> (first | (with_reducible refine zal ?_; try simp only [evb, kb, hN, seval, pvb]) | (simp [evb, kb, hN, sdb] <;> omega))))); refine zaa ?_; refine hK _ _ ?_; clear hK K
    refine wp_cond_false (by simp [evb, kb, hN, sdb]) ?_
    refine wp_seq_k fun K hK => ?_; refine zac ?_; (repeat (first | ((with_reducible refine zav ?_ ?_ ?_ ?_); (· exact rfl); (· simp [evb, kb, hN, dyb, sdb] <;> omega); (· kernel_rfl); try simp only [evb, kb, hN, seval, pvb]) | ((with_reducible refine zag ?_ ?_ ?_); rotate_left 1; (· simp [evb, kb, hN, sdb]); rotate_left 1; (· kernel_rfl); try simp only [evb, kb, hN, seval, pvb]) | ((with_reducible first | refine zai ?_ ?_ ?_ | refine zad ?_ ?_ | refine zae ?_ ?_ ?_) <;> (first | (with_reducible refine zal ?_; try simp only [evb, kb, hN, seval, pvb]) | (simp [evb, kb, hN, sdb] <;> omega))))); refine zaa ?_; refine hK _ _ ?_; clear hK K
    refine wp_cond_false (by simp [evb, kb, hN, sdb]) ?_
    refine wp_seq_k fun K hK => ?_; refine zac ?_; (repeat (first | ((with_reducible refine zav ?_ ?_ ?_ ?_); (· exact rfl); (· simp [evb, kb, hN, dyb, sdb] <;> omega); (· kernel_rfl); try simp only [evb, kb, hN, seval, pvb]) | ((with_reducible refine zag ?_ ?_ ?_); rotate_left 1; (· simp [evb, kb, hN, sdb]); rotate_left 1; (· kernel_rfl); try simp only [evb, kb, hN, seval, pvb]) | ((with_reducible first | refine zai ?_ ?_ ?_ | refine zad ?_ ?_ | refine zae ?_ ?_ ?_) <;> (first | (with_reducible refine zal ?_; try simp only [evb, kb, hN, seval, pvb]) | (simp [evb, kb, hN, sdb] <;> omega))))); refine zaa ?_; refine hK _ _ ?_; clear hK K
    refine wp_cond_false (by simp [evb, kb, hN, sdb]) ?_
    refine wp_seq_k fun K hK => ?_; refine zac ?_; (repeat (first | ((with_reducible refine zav ?_ ?_ ?_ ?_); (· exact rfl); (· simp [evb, kb, hN, dyb, sdb] <;> omega); (· kernel_rfl); try simp only [evb, kb, hN, seval, pvb]) | ((with_reducible refine zag ?_ ?_ ?_); rotate_left 1; (· simp [evb, kb, hN, sdb]); rotate_left 1; (· kernel_rfl); try simp only [evb, kb, hN, seval, pvb]) | ((with_reducible first | refine zai ?_ ?_ ?_ | refine zad ?_ ?_ | refine zae ?_ ?_ ?_) <;> (first | (with_reducible refine zal ?_; try simp only [evb, kb, hN, seval, pvb]) | (simp [evb, kb, hN, sdb] <;> omega))))); refine zaa ?_; refine hK _ _ ?_; clear hK K
    refine wp_cond_false (by simp [evb, kb, hN, sdb]) ?_
    refine wp_seq_k fun K hK => ?_; refine zac ?_; (repeat (first | ((with_reducible refine zav ?_ ?_ ?_ ?_); (· exact rfl); (· simp [evb, kb, hN, dyb, sdb] <;> omega); (· kernel_rfl); try simp only [evb, kb, hN, seval, pvb]) | ((with_reducible refine zag ?_ ?_ ?_); rotate_left 1; (· simp [evb, kb, hN, sdb]); rotate_left 1; (· kernel_rfl); try simp only [evb, kb, hN, seval, pvb]) | ((with_reducible first | refine zai ?_ ?_ ?_ | refine zad ?_ ?_ | refine zae ?_ ?_ ?_) <;> (first | (with_reducible refine zal ?_; try simp only [evb, kb, hN, seval, pvb]) | (simp [evb, kb, hN, sdb] <;> omega))))); refine zaa ?_; refine hK _ _ ?_; clear hK K
    refine wp_cond_false (by simp [evb, kb, hN, sdb]) ?_
    refine wp_seq_k fun K hK => ?_; refine zac ?_; (repeat (first | ((with_reducible refine zav ?_ ?_ ?_ ?_); (· exact rfl); (· simp [evb, kb, hN, dyb, sdb] <;> omega); (· kernel_rfl); try simp only [evb, kb, hN, seval, pvb]) | ((with_reducible refine zag ?_ ?_ ?_); rotate_left 1; (· simp [evb, kb, hN, sdb]); rotate_left 1; (· kernel_rfl); try simp only [evb, kb, hN, seval, pvb]) | ((with_reducible first | refine zai ?_ ?_ ?_ | refine zad ?_ ?_ | refine zae ?_ ?_ ?_) <;> (first | (with_reducible refine zal ?_; try simp only [evb, kb, hN, seval, pvb]) | (simp [evb, kb, hN, sdb] <;> omega))))); refine zaa ?_; refine hK _ _ ?_; clear hK K
    refine wp_cond_true (by simp [evb, kb, hN, sdb]) ?_
    refine wp_seq_k fun K hK => ?_; refine zac ?_; (repeat (first | ((with_reducible refine zav ?_ ?_ ?_ ?_); (· exact rfl); (· simp [evb, kb, hN, h0, h1, dyb, sdb] <;> omega); (· kernel_rfl); try simp only [evb, kb, hN, seval, pvb, h0, h1]) | ((with_reducible refine zag ?_ ?_ ?_); rotate_left 1; (· simp [evb, kb, hN, h0, h1, sdb]); rotate_left 1; (· kernel_rfl); try simp only [evb, kb, hN, seval, pvb, h0, h1]) | ((with_reducible first | refine zai ?_ ?_ ?_ | refine zad ?_ ?_ | refine zae ?_ ?_ ?_) <;> (first | (with_reducible refine zal ?_; try simp only [evb, kb, hN, seval, pvb, h0, h1]) | (simp [evb, kb, hN, h0, h1, sdb] <;> omega)))))
    refine zaO [UInt8.ofNat (n % 128 + 128), UInt8.ofNat (n / 128 % 128 + 128), UInt8.ofNat (n / 16384)] (by simp [-UInt8.ofNat_add, evb, kb, hN, seval, h1, IntKind.bits, List.zipIdx]; simp only [shN1, shN2, bw_or, bw_id (n / 16384) (by omega), and_self, and_true]) rfl (by simp) (by simp [evb, kb, hN, h0, h1, sdb]) (by simp [zaf, hN]) hown hlim hb ?_
    intro v' w' happ
    (repeat (first | ((with_reducible refine zav ?_ ?_ ?_ ?_); (· exact rfl); (· simp [evb, kb, hN, dyb, sdb] <;> omega); (· kernel_rfl); try simp only [evb, kb, hN, seval, pvb]) | ((with_reducible refine zag ?_ ?_ ?_); rotate_left 1; (· simp [evb, kb, hN, sdb]); rotate_left 1; (· kernel_rfl); try simp only [evb, kb, hN, seval, pvb]) | ((with_reducible first | refine zai ?_ ?_ ?_ | refine zad ?_ ?_ | refine zae ?_ ?_ ?_) <;> (first | (with_reducible refine zal ?_; try simp only [evb, kb, hN, seval, pvb]) | (simp [evb, kb, hN, sdb] <;> omega))))); refine zaa ?_; refine hK _ _ ?_; clear hK K; refine wp_ret ⟨by simp [zab, hD], ?_⟩; simp only [evb, kb, hN, seval]
    exact happ
  by_cases c4 : n < 268435456
  · have e : ulen64 n = 4 := by unfold ulen64; rw [if_neg c1, if_neg c2, if_neg c3, if_pos c4]
    have eu := uvl_4 n c3 c4
    rw [e] at hu
    rw [eu] at hlim ⊢
    refine wp_seq_k fun K hK => ?_; refine wp_seq_k fun K hK => ?_; refine zac ?_; (repeat (first | ((with_reducible refine zav ?_ ?_ ?_ ?_); (· exact rfl); (· simp [evb, kb, hN, h0, h1, dyb, sdb] <;> omega); (· kernel_rfl); try simp only [evb, kb, hN, seval, pvb, h0, h1]) | ((with_reducible refine zag ?_ ?_ ?_); rotate_left 1; (· simp [evb, kb, hN, h0, h1, sdb]); rotate_left 1; (· kernel_rfl); try simp only [evb, kb, hN, seval, pvb, h0, h1]) | ((with_reducible first | refine zai ?_ ?_ ?_ | refine zad ?_ ?_ | refine zae ?_ ?_ ?_) <;> (first | (with_reducible refine zal ?_; try simp only [evb, kb, hN, seval, pvb, h0, h1]) | (simp [evb, kb, hN, h0, h1, sdb] <;> omega)))))
    refine zak (fun args w => Tryd.call67 args w) (by simp [evb, kb, hN, seval, h1]; exact hu) ?_
    rintro x w1 ⟨rfl, rfl⟩
    refine zaa ?_; refine hK _ _ ?_; clear hK K
    refine wp_block ?_
    refine wp_seq_k fun K hK => ?_; refine zac ?_; (repeat (first | ((with_reducible refine zav ?_ ?_ ?_ ?_); (· exact rfl); (· simp [evb, kb, hN, dyb, sdb] <;> omega); (· kernel_rfl); try simp only [evb, kb, hN, seval, pvb]) | ((with_reducible refine zag ?_ ?_ ?_); rotate_left 1; (· simp [evb, kb, hN, sdb]); rotate_left 1; (· kernel_rfl); try simp only [evb, kb, hN, seval, pvb]) | ((with_reducible first | refine zai ?_ ?_ ?_ | refine zad ?_ ?_ | refine zae ?_ ?_ ?_) <;> (first | (with_reducible refine zal ?_; try simp only [evb, kb, hN, seval, pvb]) | (simp [evb, kb, hN, sdb] <;> omega))))); refine zaa ?_; refine hK _ _ ?_; clear hK K
    refine wp_cond_false (by simp [evb, kb, hN, sdb]) ?_
    refine wp_seq_k fun K hK => ?_; refine zac ?_; (repeat (first | ((with_reducible refine zav ?_ ?_ ?_ ?_); (· exact rfl); (· simp [evb, kb, hN, dyb, sdb] <;> omega); (· kernel_rfl); try simp only [evb, kb, hN, seval, pvb]) | ((with_reducible refine zag ?_ ?_ ?_); rotate_left 1; (· simp [evb, kb, hN, sdb]); rotate_left 1; (· kernel_rfl); try simp only [evb, kb, hN, seval, pvb]) | ((with_reducible first | refine zai ?_ ?_ ?_ | refine zad ?_ ?_ | refine zae ?_ ?_ ?_) <;> (first | (with_reducible refine zal ?_; try simp only [evb, kb, hN, seval, pvb]) | (simp [evb, kb, hN, sdb] <;> omega))))); refine zaa ?_; refine hK _ _ ?_; clear hK K
    refine wp_cond_false (by simp [evb, kb, hN, sdb]) ?_
    refine wp_seq_k fun K hK => ?_; refine zac ?_; (repeat (first | ((with_reducible refine zav ?_ ?_ ?_ ?_); (· exact rfl); (· simp [evb, kb, hN, dyb, sdb] <;> omega); (· kernel_rfl); try simp only [evb, kb, hN, seval, pvb]) | ((with_reducible refine zag ?_ ?_ ?_); rotate_left 1; (· simp [evb, kb, hN, sdb]); rotate_left 1; (· kernel_rfl); try simp only [evb, kb, hN, seval, pvb]) | ((with_reducible first | refine zai ?_ ?_ ?_ | refine zad ?_ ?_ | refine zae ?_ ?_ ?_) <;> (first | (with_reducible refine zal ?_; try simp only [evb, kb, hN, seval, pvb]) | (simp [evb, kb, hN, sdb] <;> omega))))); refine zaa ?_; refine hK _ _ ?_; clear hK K
    refine wp_cond_false (by simp [evb, kb, hN, sdb]) ?_
    refine wp_seq_k fun K hK => ?_; refine zac ?_; (repeat (first | ((with_reducible refine zav ?_ ?_ ?_ ?_); (· exact rfl); (· simp [evb, kb, hN, dyb, sdb] <;> omega); (· kernel_rfl); try simp only [evb, kb, hN, seval, pvb]) | ((with_reducible refine zag ?_ ?_ ?_); rotate_left 1; (· simp [evb, kb, hN, sdb]); rotate_left 1; (· kernel_rfl); try simp only [evb, kb, hN, seval, pvb]) | ((with_reducible first | refine zai ?_ ?_ ?_ | refine zad ?_ ?_ | refine zae ?_ ?_ ?_) <;> (first | (with_reducible refine zal ?_; try simp only [evb, kb, hN, seval, pvb]) | (simp [evb, kb, hN, sdb] <;> omega))))); refine zaa ?_; refine hK _ _ ?_; clear hK K
    refine wp_cond_false (by simp [evb, kb, hN, sdb]) ?_
    refine wp_seq_k fun K hK => ?_; refine zac ?_; (repeat (first | ((with_reducible refine zav ?_ ?_ ?_ ?_); (· exact rfl); (· simp [evb, kb, hN, dyb, sdb] <;> omega); (· kernel_rfl); try simp only [evb, kb, hN, seval, pvb]) | ((with_reducible refine zag ?_ ?_ ?_); rotate_left 1; (· simp [evb, kb, hN, sdb]); rotate_left 1; (· kernel_rfl); try simp only [evb, kb, hN, seval, pvb]) | ((with_reducible first | refine zai ?_ ?_ ?_ | refine zad ?_ ?_ | refine zae ?_ ?_ ?_) <;> (first | (with_reducible refine zal ?_; try simp only [evb, kb, hN, seval, pvb]) | (simp [evb, kb, hN, sdb] <;> omega))))); refine zaa ?_; refine hK _ _ ?_; clear hK K
    refine wp_cond_false (by simp [evb, kb, hN, sdb]) ?_
    refine wp_seq_k fun K hK => ?_; refine zac ?_; (repeat (first | ((with_reducible refine zav ?_ ?_ ?_ ?_); (· exact rfl); (· simp [evb, kb, hN, dyb, sdb] <;> omega); (· kernel_rfl); try simp only [evb, kb, hN, seval, pvb]) | ((with_reducible refine zag ?_ ?_ ?_); rotate_left 1; (· simp [evb, kb, hN, sdb]); rotate_left 1; (· kernel_rfl); try simp only [evb, kb, hN, seval, pvb]) | ((with_reducible first | refine zai ?_ ?_ ?_ | refine zad ?_ ?_ | refine zae ?_ ?_ ?_) <;> (first | (with_reducible refine zal ?_; try simp only [evb, kb, hN, seval, pvb]) | (simp [evb, kb, hN, sdb] <;> omega))))); refine zaa ?_; refine hK _ _ ?_; clear hK K
    refine wp_cond_false (by simp [evb, kb, hN, sdb]) ?_
    refine wp_seq_k fun K hK => ?_; refine zac ?_; (repeat (first | ((with_reducible refine zav ?_ ?_ ?_ ?_); (· exact rfl); (· simp [evb, kb, hN, dyb, sdb] <;> omega); (· kernel_rfl); try simp only [evb, kb, hN, seval, pvb]) | ((with_reducible refine zag ?_ ?_ ?_); rotate_left 1; (· simp [evb, kb, hN, sdb]); rotate_left 1; (· kernel_rfl); try simp only [evb, kb, hN, seval, pvb]) | ((with_reducible first | refine zai ?_ ?_ ?_ | refine zad ?_ ?_ | refine zae ?_ ?_ ?_) <;> (first | (with_reducible refine zal ?_; try simp only [evb, kb, hN, seval, pvb]) | (simp [evb, kb, hN, sdb] <;> omega))))); refine zaa ?_; refine hK _ _ ?_; clear hK K
    refine wp_cond_true (by simp [evb, kb, hN, sdb]) ?_
    refine wp_seq_k fun K hK => ?_; refine zac ?_; (repeat (first | ((with_reducible refine zav ?_ ?_ ?_ ?_); (· exact rfl); (· simp [evb, kb, hN, h0, h1, dyb, sdb] <;> omega); (· kernel_rfl); try simp only [evb, kb, hN, seval, pvb, h0, h1]) | ((with_reducible refine zag ?_ ?_ ?_); rotate_left 1; (· simp [evb, kb, hN, h0, h1, sdb]); rotate_left 1; (· kernel_rfl); try simp only [evb, kb, hN, seval, pvb, h0, h1]) | ((with_reducible first | refine zai ?_ ?_ ?_ | refine zad ?_ ?_ | refine zae ?_ ?_ ?_) <;> (first | (with_reducible refine zal ?_; try simp only [evb, kb, hN, seval, pvb, h0, h1]) | (simp [evb, kb, hN, h0, h1, sdb] <;> omega)))))
    refine zaO [UInt8.ofNat (n % 128 + 128), UInt8.ofNat (n / 128 % 128 + 128), UInt8.ofNat (n / 16384 % 128 + 128), UInt8.ofNat (n / 2097152)] (by simp [-UInt8.ofNat_add, evb, kb, hN, seval, h1, IntKind.bits, List.zipIdx]; simp only [shN1, shN2, shN3, bw_or, bw_id (n / 2097152) (by omega), and_self, and_true]) rfl (by simp) (by simp [evb, kb, hN, h0, h1, sdb]) (by simp [zaf, hN]) hown hlim hb ?_
    intro v' w' happ
    (repeat (first | ((with_reducible refine zav ?_ ?_ ?_ ?_); (· exact rfl); (· simp [evb, kb, hN, dyb, sdb] <;> omega); (· kernel_rfl); try simp only [evb, kb, hN, seval, pvb]) | ((with_reducible refine zag ?_ ?_ ?_); rotate_left 1; (· simp [evb, kb, hN, sdb]); rotate_left 1; (· kernel_rfl); try simp only [evb, kb, hN, seval, pvb]) | ((with_reducible first | refine zai ?_ ?_ ?_ | refine zad ?_ ?_ | refine zae ?_ ?_ ?_) <;> (first | (with_reducible refine zal ?_; try simp only [evb, kb, hN, seval, pvb]) | (simp [evb, kb, hN, sdb] <;> omega))))); refine zaa ?_; refine hK _ _ ?_; clear hK K; refine wp_ret ⟨by simp [zab, hD], ?_⟩; simp only [evb, kb, hN, seval]
    exact happ
  by_cases c5 : n < 34359738368
  · have e : ulen64 n = 5 := by unfold ulen64; rw [if_neg c1, if_neg c2, if_neg c3, if_neg c4, if_pos c5]
    have eu := uvl_5 n c4 c5
    rw [e] at hu
    rw [eu] at hlim ⊢
    refine wp_seq_k fun K hK => ?_; refine wp_seq_k fun K hK => ?_; refine zac ?_; (repeat (first | ((with_reducible refine zav ?_ ?_ ?_ ?_); (· exact rfl); (· simp [evb, kb, hN, h0, h1, dyb, sdb] <;> omega); (· kernel_rfl); try simp only [evb, kb, hN, seval, pvb, h0, h1]) | ((with_reducible refine zag ?_ ?_ ?_); rotate_left 1; (· simp [evb, kb, hN, h0, h1, sdb]); rotate_left 1; (· kernel_rfl); try simp only [evb, kb, hN, seval, pvb, h0, h1]) | ((with_reducible first | refine zai ?_ ?_ ?_ | refine zad ?_ ?_ | refine zae ?_ ?_ ?_) <;> (first | (with_reducible refine zal ?_; try simp only [evb, kb, hN, seval, pvb, h0, h1]) | (simp [evb, kb, hN, h0, h1, sdb] <;> omega)))))
    refine zak (fun args w => Tryd.call67 args w) (by simp [evb, kb, hN, seval, h1]; exact hu) ?_
    rintro x w1 ⟨rfl, rfl⟩
    refine zaa ?_; refine hK _ _ ?_; clear hK K
    refine wp_block ?_
    refine wp_seq_k fun K hK => ?_; refine zac ?_; (repeat (first | ((with_reducible refine zav ?_ ?_ ?_ ?_); (· exact rfl); (· simp [evb, kb, hN, dyb, sdb] <;> omega); (· kernel_rfl); try simp only [evb, kb, hN, seval, pvb]) | ((with_reducible refine zag ?_ ?_ ?_); rotate_left 1; (· simp [evb, kb, hN, sdb]); rotate_left 1; (· kernel_rfl); try simp only [evb, kb, hN, seval, pvb]) | ((with_reducible first | refine zai ?_ ?_ ?_ | refine zad ?_ ?_ | refine zae ?_ ?_ ?_) <;> (first | (with_reducible refine zal ?_; try simp only [evb, kb, hN, seval, pvb]) | (simp [evb, kb, hN, sdb] <;> omega))))); refine zaa ?_; refine hK _ _ ?_; clear hK K
    refine wp_cond_false (by simp [evb, kb, hN, sdb]) ?_
    refine wp_seq_k fun K hK => ?_; refine zac ?_; (repeat (first | ((with_reducible refine zav ?_ ?_ ?_ ?_); (· exact rfl); (· simp [evb, kb, hN, dyb, sdb] <;> omega); (· kernel_rfl); try simp only [evb, kb, hN, seval, pvb]) | ((with_reducible refine zag ?_ ?_ ?_); rotate_left 1; (· simp [evb, kb, hN, sdb]); rotate_left 1; (· kernel_rfl); try simp only [evb, kb, hN, seval, pvb]) | ((with_reducible first | refine zai ?_ ?_ ?_ | refine zad ?_ ?_ | refine zae ?_ ?_ ?_) <;> (first | (with_reducible refine zal ?_; try simp only [evb, kb, hN, seval, pvb]) | (simp [evb, kb, hN, sdb] <;> omega))))); refine zaa ?_; refine hK _ _ ?_; clear hK K
    refine wp_cond_false (by simp [evb, kb, hN, sdb]) ?_
    refine wp_seq_k fun K hK => ?_; refine zac ?_; (repeat (first | ((with_reducible refine zav ?_ ?_ ?_ ?_); (· exact rfl); (· simp [evb, kb, hN, dyb, sdb] <;> omega); (· kernel_rfl); try simp only [evb, kb, hN, seval, pvb]) | ((with_reducible refine zag ?_ ?_ ?_); rotate_left 1; (· simp [evb, kb, hN, sdb]); rotate_left 1; (· kernel_rfl); try simp only [evb, kb, hN, seval, pvb]) | ((with_reducible first | refine zai ?_ ?_ ?_ | refine zad ?_ ?_ | refine zae ?_ ?_ ?_) <;> (first | (with_reducible refine zal ?_; try simp only [evb, kb, hN, seval, pvb]) | (simp [evb, kb, hN, sdb] <;> omega))))); refine zaa ?_; refine hK _ _ ?_; clear hK K
    refine wp_cond_false (by simp [evb, kb, hN, sdb]) ?_
    refine wp_seq_k fun K hK => ?_; refine zac ?_; (repeat (first | ((with_reducible refine zav ?_ ?_ ?_ ?_); (· exact rfl); (· simp [evb, kb, hN, dyb, sdb] <;> omega); (· kernel_rfl); try simp only [evb, kb, hN, seval, pvb]) | ((with_reducible refine zag ?_ ?_ ?_); rotate_left 1; (· simp [evb, kb, hN, sdb]); rotate_left 1; (· kernel_rfl); try simp only [evb, kb, hN, seval, pvb]) | ((with_reducible first | refine zai ?_ ?_ ?_ | refine zad ?_ ?_ | refine zae ?_ ?_ ?_) <;> (first | (with_reducible refine zal ?_; try simp only [evb, kb, hN, seval, pvb]) | (simp [evb, kb, hN, sdb] <;> omega))))); refine zaa ?_; refine hK _ _ ?_; clear hK K
    refine wp_cond_false (by simp [evb, kb, hN, sdb]) ?_
    refine wp_seq_k fun K hK => ?_; refine zac ?_; (repeat (first | ((with_reducible refine zav ?_ ?_ ?_ ?_); (· exact rfl); (· simp [evb, kb, hN, dyb, sdb] <;> omega); (· kernel_rfl); try simp only [evb, kb, hN, seval, pvb]) | ((with_reducible refine zag ?_ ?_ ?_); rotate_left 1; (· simp [evb, kb, hN, sdb]); rotate_left 1; (· kernel_rfl); try simp only [evb, kb, hN, seval, pvb]) | ((with_reducible first | refine zai ?_ ?_ ?_ | refine zad ?_ ?_ | refine zae ?_ ?_ ?_) <;> (first | (with_reducible refine zal ?_; try simp only [evb, kb, hN, seval, pvb]) | (simp [evb, kb, hN, sdb] <;> omega))))); refine zaa ?_; refine hK _ _ ?_; clear hK K
    refine wp_cond_false (by simp [evb, kb, hN, sdb]) ?_
    refine wp_seq_k fun K hK => ?_; refine zac ?_; (repeat (first | ((with_reducible refine zav ?_ ?_ ?_ ?_); (· exact rfl); (· simp [evb, kb, hN, dyb, sdb] <;> omega); (· kernel_rfl); try simp only [evb, kb, hN, seval, pvb]) | ((with_reducible refine zag ?_ ?_ ?_); rotate_left 1; (· simp [evb, kb, hN, sdb]); rotate_left 1; (· kernel_rfl); try simp only [evb, kb, hN, seval, pvb]) | ((with_reducible first | refine zai ?_ ?_ ?_ | refine zad ?_ ?_ | refine zae ?_ ?_ ?_) <;> (first | (with_reducible refine zal ?_; try simp only [evb, kb, hN, seval, pvb]) | (simp [evb, kb, hN, sdb] <;> omega))))); refine zaa ?_; refine hK _ _ ?_; clear hK K
    refine wp_cond_true (by simp [evb, kb, hN, sdb]) ?_
    refine wp_seq_k fun K hK => ?_; refine zac ?_; (repeat (first | ((with_reducible refine zav ?_ ?_ ?_ ?_); (· exact rfl); (· simp [evb, kb, hN, h0, h1, dyb, sdb] <;> omega); (· kernel_rfl); try simp only [evb, kb, hN, seval, pvb, h0, h1]) | ((with_reducible refine zag ?_ ?_ ?_); rotate_left 1; (· simp [evb, kb, hN, h0, h1, sdb]); rotate_left 1; (· kernel_rfl); try simp only [evb, kb, hN, seval, pvb, h0, h1]) | ((with_reducible first | refine zai ?_ ?_ ?_ | refine zad ?_ ?_ | refine zae ?_ ?_ ?_) <;> (first | (with_reducible refine zal ?_; try simp only [evb, kb, hN, seval, pvb, h0, h1]) | (simp [evb, kb, hN, h0, h1, sdb] <;> omega)))))
    refine zaO [UInt8.ofNat (n % 128 + 128), UInt8.ofNat (n / 128 % 128 + 128), UInt8.ofNat (n / 16384 % 128 + 128), UInt8.ofNat (n / 2097152 % 128 + 128), UInt8.ofNat (n / 268435456)] (by simp [-UInt8.ofNat_add, evb, kb, hN, seval, h1, IntKind.bits, List.zipIdx]; simp only [shN1, shN2, shN3, shN4, bw_or, bw_id (n / 268435456) (by omega), and_self, and_true]) rfl (by simp) (by simp [evb, kb, hN, h0, h1, sdb]) (by simp [zaf, hN]) hown hlim hb ?_
    intro v' w' happ
    (repeat (first | ((with_reducible refine zav ?_ ?_ ?_ ?_); (· exact rfl); (· simp [evb, kb, hN, dyb, sdb] <;> omega); (· kernel_rfl); try simp only [evb, kb, hN, seval, pvb]) | ((with_reducible refine zag ?_ ?_ ?_); rotate_left 1; (· simp [evb, kb, hN, sdb]); rotate_left 1; (· kernel_rfl); try simp only [evb, kb, hN, seval, pvb]) | ((with_reducible first | refine zai ?_ ?_ ?_ | refine zad ?_ ?_ | refine zae ?_ ?_ ?_) <;> (first | (with_reducible refine zal ?_; try simp only [evb, kb, hN, seval, pvb]) | (simp [evb, kb, hN, sdb] <;> omega))))); refine zaa ?_; refine hK _ _ ?_; clear hK K; refine wp_ret ⟨by simp [zab, hD], ?_⟩; simp only [evb, kb, hN, seval]
    exact happ
  by_cases c6 : n < 4398046511104
  · have e : ulen64 n = 6 := by unfold ulen64; rw [if_neg c1, if_neg c2, if_neg c3, if_neg c4, if_neg c5, if_pos c6]
    have eu := uvl_6 n c5 c6
    rw [e] at hu
    rw [eu] at hlim ⊢
    refine wp_seq_k fun K hK => ?_; refine wp_seq_k fun K hK => ?_; refine zac ?_; (repeat (first | ((with_reducible refine zav ?_ ?_ ?_ ?_); (· exact rfl); (· simp [evb, kb, hN, h0, h1, dyb, sdb] <;> omega); (· kernel_rfl); try simp only [evb, kb, hN, seval, pvb, h0, h1]) | ((with_reducible refine zag ?_ ?_ ?_); rotate_left 1; (· simp [evb, kb, hN, h0, h1, sdb]); rotate_left 1; (· kernel_rfl); try simp only [evb, kb, hN, seval, pvb, h0, h1]) | ((with_reducible first | refine zai ?_ ?_ ?_ | refine zad ?_ ?_ | refine zae ?_ ?_ ?_) <;> (first | (with_reducible refine zal ?_; try simp only [evb, kb, hN, seval, pvb, h0, h1]) | (simp [evb, kb, hN, h0, h1, sdb] <;> omega)))))
    refine zak (fun args w => Tryd.call67 args w) (by simp [evb, kb, hN, seval, h1]; exact hu) ?_
    rintro x w1 ⟨rfl, rfl⟩
    refine zaa ?_; refine hK _ _ ?_; clear hK K
    refine wp_block ?_
    refine wp_seq_k fun K hK => ?_; refine zac ?_; (repeat (first | ((with_reducible refine zav ?_ ?_ ?_ ?_); (· exact rfl); (· simp [evb, kb, hN, dyb, sdb] <;> omega); (· kernel_rfl); try simp only [evb, kb, hN, seval, pvb]) | ((with_reducible refine zag ?_ ?_ ?_); rotate_left 1; (· simp [evb, kb, hN, sdb]); rotate_left 1; (· kernel_rfl); try simp only [evb, kb, hN, seval, pvb]) | ((with_reducible first | refine zai ?_ ?_ ?_ | refine zad ?_ ?_ | refine zae ?_ ?_ ?_) <;> (first | (with_reducible refine zal ?_; try simp only [evb, kb, hN, seval, pvb]) | (simp [evb, kb, hN, sdb] <;> omega))))); refine zaa ?_; refine hK _ _ ?_; clear hK K
    refine wp_cond_false (by simp [evb, kb, hN, sdb]) ?_
    refine wp_seq_k fun K hK => ?_; refine zac ?_; (repeat (first | ((with_reducible refine zav ?_ ?_ ?_ ?_); (· exact rfl); (· simp [evb, kb, hN, dyb, sdb] <;> omega); (· kernel_rfl); try simp only [evb, kb, hN, seval, pvb]) | ((with_reducible refine zag ?_ ?_ ?_); rotate_left 1; (· simp [evb, kb, hN, sdb]); rotate_left 1; (· kernel_rfl); try simp only [evb, kb, hN, seval, pvb]) | ((with_reducible first | refine zai ?_ ?_ ?_ | refine zad ?_ ?_ | refine zae ?_ ?_ ?_) <;> (first | (with_reducible refine zal ?_; try simp only [evb, kb, hN, seval, pvb]) | (simp [evb, kb, hN, sdb] <;> omega))))); refine zaa ?_; refine hK _ _ ?_; clear hK K
    refine wp_cond_false (by simp [evb, kb, hN, sdb]) ?_
    refine wp_seq_k fun K hK => ?_; refine zac ?_; (repeat (first | ((with_reducible refine zav ?_ ?_ ?_ ?_); (· exact rfl); (· simp [evb, kb, hN, dyb, sdb] <;> omega); (· kernel_rfl); try simp only [evb, kb, hN, seval, pvb]) | ((with_reducible refine zag ?_ ?_ ?_); rotate_left 1; (· simp [evb, kb, hN, sdb]); rotate_left 1; (· kernel_rfl); try simp only [evb, kb, hN, seval, pvb]) | ((with_reducible first | refine zai ?_ ?_ ?_ | refine zad ?_ ?_ | refine zae ?_ ?_ ?_) <;> (first | (with_reducible refine zal ?_; try simp only [evb, kb, hN, seval, pvb]) | (simp [evb, kb, hN, sdb] <;> omega))))); refine zaa ?_; refine hK _ _ ?_; clear hK K
    refine wp_cond_false (by simp [evb, kb, hN, sdb]) ?_
    refine wp_seq_k fun K hK => ?_; refine zac ?_; (repeat (first | ((with_reducible refine zav ?_ ?_ ?_ ?_); (· exact rfl); (· simp [evb, kb, hN, dyb, sdb] <;> omega); (· kernel_rfl); try simp only [evb, kb, hN, seval, pvb]) | ((with_reducible refine zag ?_ ?_ ?_); rotate_left 1; (· simp [evb, kb, hN, sdb]); rotate_left 1; (· kernel_rfl); try simp only [evb, kb, hN, seval, pvb]) | ((with_reducible first | refine zai ?_ ?_ ?_ | refine zad ?_ ?_ | refine zae ?_ ?_ ?_) <;> (first | (with_reducible refine zal ?_; try simp only [evb, kb, hN, seval, pvb]) | (simp [evb, kb, hN, sdb] <;> omega))))); refine zaa ?_; refine hK _ _ ?_; clear hK K
    refine wp_cond_false (by simp [evb, kb, hN, sdb]) ?_
    refine wp_seq_k fun K hK => ?_; refine zac ?_; (repeat (first | ((with_reducible refine zav ?_ ?_ ?_ ?_); (· exact rfl); (· simp [evb, kb, hN, dyb, sdb] <;> omega); (· kernel_rfl); try simp only [evb, kb, hN, seval, pvb]) | ((with_reducible refine zag ?_ ?_ ?_); rotate_left 1; (· simp [evb, kb, hN, sdb]); rotate_left 1; (· kernel_rfl); try simp only [evb, kb, hN, seval, pvb]) | ((with_reducible first | refine zai ?_ ?_ ?_ | refine zad ?_ ?_ | refine zae ?_ ?_ ?_) <;> (first | (with_reducible refine zal ?_; try simp only [evb, kb, hN, seval, pvb]) | (simp [evb, kb, hN, sdb] <;> omega))))); refine zaa ?_; refine hK _ _ ?_; clear hK K
    refine wp_cond_true (by simp [evb, kb, hN, sdb]) ?_
    refine wp_seq_k fun K hK => ?_; refine zac ?_; (repeat (first | ((with_reducible refine zav ?_ ?_ ?_ ?_); (· exact rfl); (· simp [evb, kb, hN, h0, h1, dyb, sdb] <;> omega); (· kernel_rfl); try simp only [evb, kb, hN, seval, pvb, h0, h1]) | ((with_reducible refine zag ?_ ?_ ?_); rotate_left 1; (· simp [evb, kb, hN, h0, h1, sdb]); rotate_left 1; (· kernel_rfl); try simp only [evb, kb, hN, seval, pvb, h0, h1]) | ((with_reducible first | refine zai ?_ ?_ ?_ | refine zad ?_ ?_ | refine zae ?_ ?_ ?_) <;> (first | (with_reducible refine zal ?_; try simp only [evb, kb, hN, seval, pvb, h0, h1]) | (simp [evb, kb, hN, h0, h1, sdb] <;> omega)))))
    refine zaO [UInt8.ofNat (n % 128 + 128), UInt8.ofNat (n / 128 % 128 + 128), UInt8.ofNat (n / 16384 % 128 + 128), UInt8.ofNat (n / 2097152 % 128 + 128), UInt8.ofNat (n / 268435456 % 128 + 128), UInt8.ofNat (n / 34359738368)] (by simp [-UInt8.ofNat_add, evb, kb, hN, seval, h1, IntKind.bits, List.zipIdx]; simp only [shN1, shN2, shN3, shN4, shN5, bw_or, bw_id (n / 34359738368) (by omega), and_self, and_true]) rfl (by simp) (by simp [evb, kb, hN, h0, h1, sdb]) (by simp [zaf, hN]) hown hlim hb ?_
    intro v' w' happ
    (repeat (first | ((with_reducible refine zav ?_ ?_ ?_ ?_); (· exact rfl); (· simp [evb, kb, hN, dyb, sdb] <;> omega); (· kernel_rfl); try simp only [evb, kb, hN, seval, pvb]) | ((with_reducible refine zag ?_ ?_ ?_); rotate_left 1; (· simp [evb, kb, hN, sdb]); rotate_left 1; (· kernel_rfl); try simp only [evb, kb, hN, seval, pvb]) | ((with_reducible first | refine zai ?_ ?_ ?_ | refine zad ?_ ?_ | refine zae ?_ ?_ ?_) <;> (first | (with_reducible refine zal ?_; try simp only [evb, kb, hN, seval, pvb]) | (simp [evb, kb, hN, sdb] <;> omega))))); refine zaa ?_; refine hK _ _ ?_; clear hK K; refine wp_ret ⟨by simp [zab, hD], ?_⟩; simp only [evb, kb, hN, seval]
    exact happ
  by_cases c7 : n < 562949953421312
  · have e : ulen64 n = 7 := by unfold ulen64; rw [if_neg c1, if_neg c2, if_neg c3, if_neg c4, if_neg c5, if_neg c6, if_pos c7]
    have eu := uvl_7 n c6 c7
    rw [e] at hu
    rw [eu] at hlim ⊢
    refine wp_seq_k fun K hK => ?_; refine wp_seq_k fun K hK => ?_; refine zac ?_; (repeat (first | ((with_reducible refine zav ?_ ?_ ?_ ?_); (· exact rfl); (· simp [evb, kb, hN, h0, h1, dyb, sdb] <;> omega); (· kernel_rfl); try simp only [evb, kb, hN, seval, pvb, h0, h1]) | ((with_reducible refine zag ?_ ?_ ?_); rotate_left 1; (· simp [evb, kb, hN, h0, h1, sdb]); rotate_left 1; (· kernel_rfl); try simp only [evb, kb, hN, seval, pvb, h0, h1]) | ((with_reducible first | refine zai ?_ ?_ ?_ | refine zad ?_ ?_ | refine zae ?_ ?_ ?_) <;> (first | (with_reducible refine zal ?_; try simp only [evb, kb, hN, seval, pvb, h0, h1]) | (simp [evb, kb, hN, h0, h1, sdb] <;> omega)))))
    refine zak (fun args w => Tryd.call67 args w) (by simp [evb, kb, hN, seval, h1]; exact hu) ?_
    rintro x w1 ⟨rfl, rfl⟩
    refine zaa ?_; refine hK _ _ ?_; clear hK K
    refine wp_block ?_
    refine wp_seq_k fun K hK => ?_; refine zac ?_; (repeat (first | ((with_reducible refine zav ?_ ?_ ?_ ?_); (· exact rfl); (· simp [evb, kb, hN, dyb, sdb] <;> omega); (· kernel_rfl); try simp only [evb, kb, hN, seval, pvb]) | ((with_reducible refine zag ?_ ?_ ?_); rotate_left 1; (· simp [evb, kb, hN, sdb]); rotate_left 1; (· kernel_rfl); try simp only [evb, kb, hN, seval, pvb]) | ((with_reducible first | refine zai ?_ ?_ ?_ | refine zad ?_ ?_ | refine zae ?_ ?_ ?_) <;> (first | (with_reducible refine zal ?_; try simp only [evb, kb, hN, seval, pvb]) | (simp [evb, kb, hN, sdb] <;> omega))))); refine zaa ?_; refine hK _ _ ?_; clear hK K
    refine wp_cond_false (by simp [evb, kb, hN, sdb]) ?_
    refine wp_seq_k fun K hK => ?_; refine zac ?_; (repeat (first | ((with_reducible refine zav ?_ ?_ ?_ ?_); (· exact rfl); (· simp [evb, kb, hN, dyb, sdb] <;> omega); (· kernel_rfl); try simp only [evb, kb, hN, seval, pvb]) | ((with_reducible refine zag ?_ ?_ ?_); rotate_left 1; (· simp [evb, kb, hN, sdb]); rotate_left 1; (· kernel_rfl); try simp only [evb, kb, hN, seval, pvb]) | ((with_reducible first | refine zai ?_ ?_ ?_ | refine zad ?_ ?_ | refine zae ?_ ?_ ?_) <;> (first | (with_reducible refine zal ?_; try simp only [evb, kb, hN, seval, pvb]) | (simp [evb, kb, hN, sdb] <;> omega))))); refine zaa ?_; refine hK _ _ ?_; clear hK K
    refine wp_cond_false (by simp [evb, kb, hN, sdb]) ?_
    refine wp_seq_k fun K hK => ?_; refine zac ?_; (repeat (first | ((with_reducible refine zav ?_ ?_ ?_ ?_); (· exact rfl); (· simp [evb, kb, hN, dyb, sdb] <;> omega); (· kernel_rfl); try simp only [evb, kb, hN, seval, pvb]) | ((with_reducible refine zag ?_ ?_ ?_); rotate_left 1; (· simp [evb, kb, hN, sdb]); rotate_left 1; (· kernel_rfl); try simp only [evb, kb, hN, seval, pvb]) | ((with_reducible first | refine zai ?_ ?_ ?_ | refine zad ?_ ?_ | refine zae ?_ ?_ ?_) <;> (first | (with_reducible refine zal ?_; try simp only [evb, kb, hN, seval, pvb]) | (simp [evb, kb, hN, sdb] <;> omega))))); refine zaa ?_; refine hK _ _ ?_; clear hK K
    refine wp_cond_false (by simp [evb, kb, hN, sdb]) ?_
    refine wp_seq_k fun K hK => ?_; refine zac ?_; (repeat (first | ((with_reducible refine zav ?_ ?_ ?_ ?_); (· exact rfl); (· simp [evb, kb, hN, dyb, sdb] <;> omega); (· kernel_rfl); try simp only [evb, kb, hN, seval, pvb]) | ((with_reducible refine zag ?_ ?_ ?_); rotate_left 1; (· simp [evb, kb, hN, sdb]); rotate_left 1; (· kernel_rfl); try simp only [evb, kb, hN, seval, pvb]) | ((with_reducible first | refine zai ?_ ?_ ?_ | refine zad ?_ ?_ | refine zae ?_ ?_ ?_) <;> (first | (with_reducible refine zal ?_; try simp only [evb, kb, hN, seval, pvb]) | (simp [evb, kb, hN, sdb] <;> omega))))); refine zaa ?_; refine hK _ _ ?_; clear hK K
    refine wp_cond_true (by simp [evb, kb, hN, sdb]) ?_
    refine wp_seq_k fun K hK => ?_; refine zac ?_; (repeat (first | ((with_reducible refine zav ?_ ?_ ?_ ?_); (· exact rfl); (· simp [evb, kb, hN, h0, h1, dyb, sdb] <;> omega); (· kernel_rfl); try simp only [evb, kb, hN, seval, pvb, h0, h1]) | ((with_reducible refine zag ?_ ?_ ?_); rotate_left 1; (· simp [evb, kb, hN, h0, h1, sdb]); rotate_left 1; (· kernel_rfl); try simp only [evb, kb, hN, seval, pvb, h0, h1]) | ((with_reducible first | refine zai ?_ ?_ ?_ | refine zad ?_ ?_ | refine zae ?_ ?_ ?_) <;> (first | (with_reducible refine zal ?_; try simp only [evb, kb, hN, seval, pvb, h0, h1]) | (simp [evb, kb, hN, h0, h1, sdb] <;> omega)))))
    refine zaO [UInt8.ofNat (n % 128 + 128), UInt8.ofNat (n / 128 % 128 + 128), UInt8.ofNat (n / 16384 % 128 + 128), UInt8.ofNat (n / 2097152 % 128 + 128), UInt8.ofNat (n / 268435456 % 128 + 128), UInt8.ofNat (n / 34359738368 % 128 + 128), UInt8.ofNat (n / 4398046511104)] (by simp [-UInt8.ofNat_add, evb, kb, hN, seval, h1, IntKind.bits, List.zipIdx]; simp only [shN1, shN2, shN3, shN4, shN5, shN6, bw_or, bw_id (n / 4398046511104) (by omega), and_self, and_true]) rfl (by simp) (by simp [evb, kb, hN, h0, h1, sdb]) (by simp [zaf, hN]) hown hlim hb ?_
    intro v' w' happ
    (repeat (first | ((with_reducible refine zav ?_ ?_ ?_ ?_); (· exact rfl); (· simp [evb, kb, hN, dyb, sdb] <;> omega); (· kernel_rfl); try simp only [evb, kb, hN, seval, pvb]) | ((with_reducible refine zag ?_ ?_ ?_); rotate_left 1; (· simp [evb, kb, hN, sdb]); rotate_left 1; (· kernel_rfl); try simp only [evb, kb, hN, seval, pvb]) | ((with_reducible first | refine zai ?_ ?_ ?_ | refine zad ?_ ?_ | refine zae ?_ ?_ ?_) <;> (first | (with_reducible refine zal ?_; try simp only [evb, kb, hN, seval, pvb]) | (simp [evb, kb, hN, sdb] <;> omega))))); refine zaa ?_; refine hK _ _ ?_; clear hK K; refine wp_ret ⟨by simp [zab, hD], ?_⟩; simp only [evb, kb, hN, seval]
    exact happ
  by_cases c8 : n < 72057594037927936
  · have e : ulen64 n = 8 := by unfold ulen64; rw [if_neg c1, if_neg c2, if_neg c3, if_neg c4, if_neg c5, if_neg c6, if_neg c7, if_pos c8]
    have eu := uvl_8 n c7 c8
    rw [e] at hu
    rw [eu] at hlim ⊢
    refine wp_seq_k fun K hK => ?_; refine wp_seq_k fun K hK => ?_; refine zac ?_; (repeat (first | ((with_reducible refine zav ?_ ?_ ?_ ?_); (· exact rfl); (· simp [evb, kb, hN, h0, h1, dyb, sdb] <;> omega); (· kernel_rfl); try simp only [evb, kb, hN, seval, pvb, h0, h1]) | ((with_reducible refine zag ?_ ?_ ?_); rotate_left 1; (· simp [evb, kb, hN, h0, h1, sdb]); rotate_left 1; (· kernel_rfl); try simp only [evb, kb, hN, seval, pvb, h0, h1]) | ((with_reducible first | refine zai ?_ ?_ ?_ | refine zad ?_ ?_ | refine zae ?_ ?_ ?_) <;> (first | (with_reducible refine zal ?_; try simp only [evb, kb, hN, seval, pvb, h0, h1]) | (simp [evb, kb, hN, h0, h1, sdb] <;> omega)))))
    refine zak (fun args w => Tryd.call67 args w) (by simp [evb, kb, hN, seval, h1]; exact hu) ?_
    rintro x w1 ⟨rfl, rfl⟩
    refine zaa ?_; refine hK _ _ ?_; clear hK K
    refine wp_block ?_
    refine wp_seq_k fun K hK => ?_; refine zac ?_; (repeat (first | ((with_reducible refine zav ?_ ?_ ?_ ?_); (· exact rfl); (· simp [evb, kb, hN, dyb, sdb] <;> omega); (· kernel_rfl); try simp only [evb, kb, hN, seval, pvb]) | ((with_reducible refine zag ?_ ?_ ?_); rotate_left 1; (· simp [evb, kb, hN, sdb]); rotate_left 1; (· kernel_rfl); try simp only [evb, kb, hN, seval, pvb]) | ((with_reducible first | refine zai ?_ ?_ ?_ | refine zad ?_ ?_ | refine zae ?_ ?_ ?_) <;> (first | (with_reducible refine zal ?_; try simp only [evb, kb, hN, seval, pvb]) | (simp [evb, kb, hN, sdb] <;> omega))))); refine zaa ?_; refine hK _ _ ?_; clear hK K
    refine wp_cond_false (by simp [evb, kb, hN, sdb]) ?_
    refine wp_seq_k fun K hK => ?_; refine zac ?_; (repeat (first | ((with_reducible refine zav ?_ ?_ ?_ ?_); (· exact rfl); (· simp [evb, kb, hN, dyb, sdb] <;> omega); (· kernel_rfl); try simp only [evb, kb, hN, seval, pvb]) | ((with_reducible refine zag ?_ ?_ ?_); rotate_left 1; (· simp [evb, kb, hN, sdb]); rotate_left 1; (· kernel_rfl); try simp only [evb, kb, hN, seval, pvb]) | ((with_reducible first | refine zai ?_ ?_ ?_ | refine zad ?_ ?_ | refine zae ?_ ?_ ?_) <;> (first | (with_reducible refine zal ?_; try simp only [evb, kb, hN, seval, pvb]) | (simp [evb, kb, hN, sdb] <;> omega))))); refine zaa ?_; refine hK _ _ ?_; clear hK K
    refine wp_cond_false (by simp [evb, kb, hN, sdb]) ?_
    refine wp_seq_k fun K hK => ?_; refine zac ?_; (repeat (first | ((with_reducible refine zav ?_ ?_ ?_ ?_); (· exact rfl); (· simp [evb, kb, hN, dyb, sdb] <;> omega); (· kernel_rfl); try simp only [evb, kb, hN, seval, pvb]) | ((with_reducible refine zag ?_ ?_ ?_); rotate_left 1; (· simp [evb, kb, hN, sdb]); rotate_left 1; (· kernel_rfl); try simp only [evb, kb, hN, seval, pvb]) | ((with_reducible first | refine zai ?_ ?_ ?_ | refine zad ?_ ?_ | refine zae ?_ ?_ ?_) <;> (first | (with_reducible refine zal ?_; try simp only [evb, kb, hN, seval, pvb]) | (simp [evb, kb, hN, sdb] <;> omega))))); refine zaa ?_; refine hK _ _ ?_; clear hK K
    refine wp_cond_true (by simp [evb, kb, hN, sdb]) ?_
    refine wp_seq_k fun K hK => ?_; refine zac ?_; (repeat (first | ((with_reducible refine zav ?_ ?_ ?_ ?_); (· exact rfl); (· simp [evb, kb, hN, h0, h1, dyb, sdb] <;> omega); (· kernel_rfl); try simp only [evb, kb, hN, seval, pvb, h0, h1]) | ((with_reducible refine zag ?_ ?_ ?_); rotate_left 1; (· simp [evb, kb, hN, h0, h1, sdb]); rotate_left 1; (· kernel_rfl); try simp only [evb, kb, hN, seval, pvb, h0, h1]) | ((with_reducible first | refine zai ?_ ?_ ?_ | refine zad ?_ ?_ | refine zae ?_ ?_ ?_) <;> (first | (with_reducible refine zal ?_; try simp only [evb, kb, hN, seval, pvb, h0, h1]) | (simp [evb, kb, hN, h0, h1, sdb] <;> omega)))))
    refine zaO [UInt8.ofNat (n % 128 + 128), UInt8.ofNat (n / 128 % 128 + 128), UInt8.ofNat (n / 16384 % 128 + 128), UInt8.ofNat (n / 2097152 % 128 + 128), UInt8.ofNat (n / 268435456 % 128 + 128), UInt8.ofNat (n / 34359738368 % 128 + 128), UInt8.ofNat (n / 4398046511104 % 128 + 128), UInt8.ofNat (n / 562949953421312)] (by simp [-UInt8.ofNat_add, evb, kb, hN, seval, h1, IntKind.bits, List.zipIdx]; simp only [shN1, shN2, shN3, shN4, shN5, shN6, shN7, bw_or, bw_id (n / 562949953421312) (by omega), and_self, and_true]) rfl (by simp) (by simp [evb, kb, hN, h0, h1, sdb]) (by simp [zaf, hN]) hown hlim hb ?_
    intro v' w' happ
    (repeat (first | ((with_reducible refine zav ?_ ?_ ?_ ?_); (· exact rfl); (· simp [evb, kb, hN, dyb, sdb] <;> omega); (· kernel_rfl); try simp only [evb, kb, hN, seval, pvb]) | ((with_reducible refine zag ?_ ?_ ?_); rotate_left 1; (· simp [evb, kb, hN, sdb]); rotate_left 1; (· kernel_rfl); try simp only [evb, kb, hN, seval, pvb]) | ((with_reducible first | refine zai ?_ ?_ ?_ | refine zad ?_ ?_ | refine zae ?_ ?_ ?_) <;> (first | (with_reducible refine zal ?_; try simp only [evb, kb, hN, seval, pvb]) | (simp [evb, kb, hN, sdb] <;> omega))))); refine zaa ?_; refine hK _ _ ?_; clear hK K; refine wp_ret ⟨by simp [zab, hD], ?_⟩; simp only [evb, kb, hN, seval]
    exact happ
  by_cases c9 : n < 9223372036854775808
  · have e : ulen64 n = 9 := by unfold ulen64; rw [if_neg c1, if_neg c2, if_neg c3, if_neg c4, if_neg c5, if_neg c6, if_neg c7, if_neg c8, if_pos c9]
    have eu := uvl_9 n c8 c9
    rw [e] at hu
    rw [eu] at hlim ⊢
    refine wp_seq_k fun K hK => ?_; refine wp_seq_k fun K hK => ?_; refine zac ?_; (repeat (first | ((with_reducible refine zav ?_ ?_ ?_ ?_); (· exact rfl); (· simp [evb, kb, hN, h0, h1, dyb, sdb] <;> omega); (· kernel_rfl); try simp only [evb, kb, hN, seval, pvb, h0, h1]) | ((with_reducible refine zag ?_ ?_ ?_); rotate_left 1; (· simp [evb, kb, hN, h0, h1, sdb]); rotate_left 1; (· kernel_rfl); try simp only [evb, kb, hN, seval, pvb, h0, h1]) | ((with_reducible first | refine zai ?_ ?_ ?_ | refine zad ?_ ?_ | refine zae ?_ ?_ ?_) <;> (first | (with_reducible refine zal ?_; try simp only [evb, kb, hN, seval, pvb, h0, h1]) | (simp [evb, kb, hN, h0, h1, sdb] <;> omega)))))
    refine zak (fun args w => Tryd.call67 args w) (by simp [evb, kb, hN, seval, h1]; exact hu) ?_
    rintro x w1 ⟨rfl, rfl⟩
    refine zaa ?_; refine hK _ _ ?_; clear hK K
    refine wp_block ?_
    refine wp_seq_k fun K hK => ?_; refine zac ?_; (repeat (first | ((with_reducible refine zav ?_ ?_ ?_ ?_); (· exact rfl); (· simp [evb, kb, hN, dyb, sdb] <;> omega); (· kernel_rfl); try simp only [evb, kb, hN, seval, pvb]) | ((with_reducible refine zag ?_ ?_ ?_); rotate_left 1; (· simp [evb, kb, hN, sdb]); rotate_left 1; (· kernel_rfl); try simp only [evb, kb, hN, seval, pvb]) | ((with_reducible first | refine zai ?_ ?_ ?_ | refine zad ?_ ?_ | refine zae ?_ ?_ ?_) <;> (first | (with_reducible refine zal ?_; try simp only [evb, kb, hN, seval, pvb]) | (simp [evb, kb, hN, sdb] <;> omega))))); refine zaa ?_; refine hK _ _ ?_; clear hK K
    refine wp_cond_false (by simp [evb, kb, hN, sdb]) ?_
    refine wp_seq_k fun K hK => ?_; refine zac ?_; (repeat (first | ((with_reducible refine zav ?_ ?_ ?_ ?_); (· exact rfl); (· simp [evb, kb, hN, dyb, sdb] <;> omega); (· kernel_rfl); try simp only [evb, kb, hN, seval, pvb]) | ((with_reducible refine zag ?_ ?_ ?_); rotate_left 1; (· simp [evb, kb, hN, sdb]); rotate_left 1; (· kernel_rfl); try simp only [evb, kb, hN, seval, pvb]) | ((with_reducible first | refine zai ?_ ?_ ?_ | refine zad ?_ ?_ | refine zae ?_ ?_ ?_) <;> (first | (with_reducible refine zal ?_; try simp only [evb, kb, hN, seval, pvb]) | (simp [evb, kb, hN, sdb] <;> omega))))); refine zaa ?_; refine hK _ _ ?_; clear hK K
    refine wp_cond_true (by simp [evb, kb, hN, sdb]) ?_
    refine wp_seq_k fun K hK => ?_; refine zac ?_; (repeat (first | ((with_reducible refine zav ?_ ?_ ?_ ?_); (· exact rfl); (· simp [evb, kb, hN, h0, h1, dyb, sdb] <;> omega); (· kernel_rfl); try simp only [evb, kb, hN, seval, pvb, h0, h1]) | ((with_reducible refine zag ?_ ?_ ?_); rotate_left 1; (· simp [evb, kb, hN, h0, h1, sdb]); rotate_left 1; (· kernel_rfl); try simp only [evb, kb, hN, seval, pvb, h0, h1]) | ((with_reducible first | refine zai ?_ ?_ ?_ | refine zad ?_ ?_ | refine zae ?_ ?_ ?_) <;> (first | (with_reducible refine zal ?_; try simp only [evb, kb, hN, seval, pvb, h0, h1]) | (simp [evb, kb, hN, h0, h1, sdb] <;> omega)))))
    refine zaO [UInt8.ofNat (n % 128 + 128), UInt8.ofNat (n / 128 % 128 + 128), UInt8.ofNat (n / 16384 % 128 + 128), UInt8.ofNat (n / 2097152 % 128 + 128), UInt8.ofNat (n / 268435456 % 128 + 128), UInt8.ofNat (n / 34359738368 % 128 + 128), UInt8.ofNat (n / 4398046511104 % 128 + 128), UInt8.ofNat (n / 562949953421312 % 128 + 128), UInt8.ofNat (n / 72057594037927936)] (by simp [-UInt8.ofNat_add, evb, kb, hN, seval, h1, IntKind.bits, List.zipIdx]; simp only [shN1, shN2, shN3, shN4, shN5, shN6, shN7, shN8, bw_or, bw_id (n / 72057594037927936) (by omega), and_self, and_true]) rfl (by simp) (by simp [evb, kb, hN, h0, h1, sdb]) (by simp [zaf, hN]) hown hlim hb ?_
    intro v' w' happ
    (repeat (first | ((with_reducible refine zav ?_ ?_ ?_ ?_); (· exact rfl); (· simp [evb, kb, hN, dyb, sdb] <;> omega); (· kernel_rfl); try simp only [evb, kb, hN, seval, pvb]) | ((with_reducible refine zag ?_ ?_ ?_); rotate_left 1; (· simp [evb, kb, hN, sdb]); rotate_left 1; (· kernel_rfl); try simp only [evb, kb, hN, seval, pvb]) | ((with_reducible first | refine zai ?_ ?_ ?_ | refine zad ?_ ?_ | refine zae ?_ ?_ ?_) <;> (first | (with_reducible refine zal ?_; try simp only [evb, kb, hN, seval, pvb]) | (simp [evb, kb, hN, sdb] <;> omega))))); refine zaa ?_; refine hK _ _ ?_; clear hK K; refine wp_ret ⟨by simp [zab, hD], ?_⟩; simp only [evb, kb, hN, seval]
    exact happ
  have e : ulen64 n = 10 := by unfold ulen64; rw [if_neg c1, if_neg c2, if_neg c3, if_neg c4, if_neg c5, if_neg c6, if_neg c7, if_neg c8, if_neg c9]
  have eu := uvl_10 n c9
  rw [e] at hu
  rw [eu] at hlim ⊢
  refine wp_seq_k fun K hK => ?_; refine wp_seq_k fun K hK => ?_; refine zac ?_; (repeat (first | ((with_reducible refine zav ?_ ?_ ?_ ?_); (· exact rfl); (· simp [evb, kb, hN, h0, h1, dyb, sdb] <;> omega); (· kernel_rfl); try simp only [evb, kb, hN, seval, pvb, h0, h1]) | ((with_reducible refine zag ?_ ?_ ?_); rotate_left 1; (· simp [evb, kb, hN, h0, h1, sdb]); rotate_left 1; (· kernel_rfl); try simp only [evb, kb, hN, seval, pvb, h0, h1]) | ((with_reducible first | refine zai ?_ ?_ ?_ | refine zad ?_ ?_ | refine zae ?_ ?_ ?_) <;> (first | (with_reducible refine zal ?_; try simp only [evb, kb, hN, seval, pvb, h0, h1]) | (simp [evb, kb, hN, h0, h1, sdb] <;> omega)))))
  refine zak (fun args w => Tryd.call67 args w) (by simp [evb, kb, hN, seval, h1]; exact hu) ?_
  rintro x w1 ⟨rfl, rfl⟩
  refine zaa ?_; refine hK _ _ ?_; clear hK K
  refine wp_block ?_
  refine wp_seq_k fun K hK => ?_; refine zac ?_; (repeat (first | ((with_reducible refine zav ?_ ?_ ?_ ?_); (· exact rfl); (· simp [evb, kb, hN, dyb, sdb] <;> omega); (· kernel_rfl); try simp only [evb, kb, hN, seval, pvb]) | ((with_reducible refine zag ?_ ?_ ?_); rotate_left 1; (· simp [evb, kb, hN, sdb]); rotate_left 1; (· kernel_rfl); try simp only [evb, kb, hN, seval, pvb]) | ((with_reducible first | refine zai ?_ ?_ ?_ | refine zad ?_ ?_ | refine zae ?_ ?_ ?_) <;> (first | (with_reducible refine zal ?_; try simp only [evb, kb, hN, seval, pvb]) | (simp [evb, kb, hN, sdb] <;> omega))))); refine zaa ?_; refine hK _ _ ?_; clear hK K
  refine wp_cond_true (by simp [evb, kb, hN, sdb]) ?_
  refine wp_seq_k fun K hK => ?_; refine zac ?_; (repeat (first | ((with_reducible refine zav ?_ ?_ ?_ ?_); (· exact rfl); (· simp [evb, kb, hN, h0, h1, dyb, sdb] <;> omega); (· kernel_rfl); try simp only [evb, kb, hN, seval, pvb, h0, h1]) | ((with_reducible refine zag ?_ ?_ ?_); rotate_left 1; (· simp [evb, kb, hN, h0, h1, sdb]); rotate_left 1; (· kernel_rfl); try simp only [evb, kb, hN, seval, pvb, h0, h1]) | ((with_reducible first | refine zai ?_ ?_ ?_ | refine zad ?_ ?_ | refine zae ?_ ?_ ?_) <;> (first | (with_reducible refine zal ?_; try simp only [evb, kb, hN, seval, pvb, h0, h1]) | (simp [evb, kb, hN, h0, h1, sdb] <;> omega)))))
  refine zaO [UInt8.ofNat (n % 128 + 128), UInt8.ofNat (n / 128 % 128 + 128), UInt8.ofNat (n / 16384 % 128 + 128), UInt8.ofNat (n / 2097152 % 128 + 128), UInt8.ofNat (n / 268435456 % 128 + 128), UInt8.ofNat (n / 34359738368 % 128 + 128), UInt8.ofNat (n / 4398046511104 % 128 + 128), UInt8.ofNat (n / 562949953421312 % 128 + 128), UInt8.ofNat (n / 72057594037927936 % 128 + 128), UInt8.ofNat (n / 9223372036854775808)] (by simp [-UInt8.ofNat_add, evb, kb, hN, seval, h1, IntKind.bits, List.zipIdx]; simp only [shN1, shN2, shN3, shN4, shN5, shN6, shN7, shN8, shN9, bw_or, bw_id (n / 9223372036854775808) (by omega), and_self, and_true]) rfl (by simp) (by simp [evb, kb, hN, h0, h1, sdb]) (by simp [zaf, hN]) hown hlim hb ?_
  intro v' w' happ
  (repeat (first | ((with_reducible refine zav ?_ ?_ ?_ ?_); (· exact rfl); (· simp [evb, kb, hN, dyb, sdb] <;> omega); (· kernel_rfl); try simp only [evb, kb, hN, seval, pvb]) | ((with_reducible refine zag ?_ ?_ ?_); rotate_left 1; (· simp [evb, kb, hN, sdb]); rotate_left 1; (· kernel_rfl); try simp only [evb, kb, hN, seval, pvb]) | ((with_reducible first | refine zai ?_ ?_ ?_ | refine zad ?_ ?_ | refine zae ?_ ?_ ?_) <;> (first | (with_reducible refine zal ?_; try simp only [evb, kb, hN, seval, pvb]) | (simp [evb, kb, hN, sdb] <;> omega))))); refine zaa ?_; refine hK _ _ ?_; clear hK K; refine wp_ret ⟨by simp [zab, hD], ?_⟩; simp only [evb, kb, hN, seval]
  exact happ
end Go.Proofs.YtojpodeljpfgaaaDoor
namespace Go.Proofs.YtojpodeljpfgaaaDoor
set_option linter.all false
open Go.RowKit Go.Lib
set_option maxRecDepth 10000
set_option maxHeartbeats 2000000
theorem AppendVarint_c (n : Int) (hn : -2147483648 ≤ n ∧ n < 2147483648) : AppC 31 [.int .i32 n] (zaN n) (fun _ => True) := by
  intro w base v bs hown hlim hb hpre
  refine zaj Tryd.func31 rfl rfl Tryd.ntmps31 (by simp) ?_
  intro a hN hD ha
  have h0 : get a 0 = v := ha 0 _ rfl
  have h1 : get a 1 = .int .i32 n := ha 1 _ rfl
  refine wp_seq_k fun K hK => ?_; refine zac ?_; refine zaF ?_; refine zaa ?_; refine hK _ _ ?_; clear hK K
  have hz := zz_lt32 hn
  have e : zaN n = uvar (zz n) := (uvar_uvl _ hz).symm
  rw [e] at hlim ⊢
  refine wp_seq_k fun K hK => ?_; refine zac ?_; (repeat ((with_reducible refine zah ?_ ?_ ?_); (· simp [evb, pvb, rnb, kb, hN, h0, h1, dyb, sdb] <;> omega); (· kernel_rfl); try simp only [evb, pvb, rnb, kb, hN, seval, h0, h1]))
  refine wl_xor (k := .u32) (m := shlI .u32 1 (IntKind.u32.wrap n)) (n := IntKind.u32.wrap (n / 2147483648)) (by simp only [evb, pvb, rnb, kb, hN, seval]; try rfl) (by simp only [evb, pvb, rnb, kb, hN, seval]; try rfl) ?_
  rw [turn32 hn]
  refine zar (fun args w => Tryd.call45 args w) (AppendUvarint_c (zz n) hz) (by simp only [List.map_toArray, List.map_cons, List.map_nil]; simp only [evb, pvb, rnb, kb, hN, seval, h0]) hown hlim hb trivial ?_
  intro v' w' happ
  (repeat ((with_reducible refine zah ?_ ?_ ?_); (· simp [evb, pvb, rnb, kb, hN, dyb, sdb] <;> omega); (· kernel_rfl); try simp only [evb, pvb, rnb, kb, hN, seval])); refine zaa ?_; refine hK _ _ ?_; clear hK K; refine wp_ret ⟨by simp [zab, hD], ?_⟩; simp only [evb, kb, hN, seval]
  exact happ
theorem AppendVarlong_c (n : Int) (hn : -9223372036854775808 ≤ n ∧ n < 9223372036854775808) : AppC 33 [.int .i64 n] (zaN n) (fun _ => True) := by
  intro w base v bs hown hlim hb hpre
  refine zaj Tryd.func33 rfl rfl Tryd.ntmps33 (by simp) ?_
  intro a hN hD ha
  have h0 : get a 0 = v := ha 0 _ rfl
  have h1 : get a 1 = .int .i64 n := ha 1 _ rfl
  refine wp_seq_k fun K hK => ?_; refine zac ?_; refine zaF ?_; refine zaa ?_; refine hK _ _ ?_; clear hK K
  have hz := zz_lt64 hn
  refine wp_seq_k fun K hK => ?_; refine zac ?_; (repeat ((with_reducible refine zah ?_ ?_ ?_); (· simp [evb, pvb, rnb, kb, hN, h0, h1, dyb, sdb] <;> omega); (· kernel_rfl); try simp only [evb, pvb, rnb, kb, hN, seval, h0, h1]))
  refine wl_xor (k := .u64) (m := shlI .u64 1 (IntKind.u64.wrap n)) (n := IntKind.u64.wrap (n / 9223372036854775808)) (by simp only [evb, pvb, rnb, kb, hN, seval]; try rfl) (by simp only [evb, pvb, rnb, kb, hN, seval]; try rfl) ?_
  rw [turn64 hn]
  refine zar (fun args w => Tryd.call46 args w) (appendUvarlong_c (zz n) hz) (by simp only [List.map_toArray, List.map_cons, List.map_nil]; simp only [evb, pvb, rnb, kb, hN, seval, h0]) hown hlim hb trivial ?_
  intro v' w' happ
  (repeat ((with_reducible refine zah ?_ ?_ ?_); (· simp [evb, pvb, rnb, kb, hN, dyb, sdb] <;> omega); (· kernel_rfl); try simp only [evb, pvb, rnb, kb, hN, seval])); refine zaa ?_; refine hK _ _ ?_; clear hK K; refine wp_ret ⟨by simp [zab, hD], ?_⟩; simp only [evb, kb, hN, seval]
  exact happ
def nilB (nil : Bool) (l : Bs) : Bs := if nil then zaN (-1) else zaN l.length ++ l
theorem AppendVarintBytes_c {oa : Option Addr} {n cap : Nat} {l : Bs} (hn : oa.isNone = false → n = l.length) (hl : l.length < 2147483648) {G : Nat → Prop} {w : World} {base : Nat} {v : Value} {bs : Bs} (hown : Own eB w base v bs) (hlim : bs.length + (nilB oa.isNone l).length ≤ LIM) (hb : base ≤ w.heap.size)
    (hsrc : oa.isNone = false → zam w G oa l) (hG : ∀ k, v.ownBlock = some k → ¬ G k) : zan Tryd.prog 34 #[v, .slice oa n cap] w (App eB w base v (bs ++ nilB oa.isNone l)) := by
  refine zaj Tryd.func34 rfl rfl Tryd.ntmps34 (by simp) ?_
  intro a hN hD ha
  have h0 : get a 0 = v := ha 0 _ rfl
  have h1 : get a 1 = .slice oa n cap := ha 1 _ rfl
  refine wp_seq_k fun K hK => ?_; refine zac ?_; (repeat ((with_reducible refine zah ?_ ?_ ?_); (· simp [evb, pvb, rnb, kb, hN, dyb, sdb] <;> omega); (· kernel_rfl); try simp only [evb, pvb, rnb, kb, hN, seval])); refine zaa ?_; refine hK _ _ ?_; clear hK K
  refine wp_seq_k fun K hK => ?_; refine wp_seq_k fun K0 hK0 => ?_; refine zac ?_; (repeat ((with_reducible refine zah ?_ ?_ ?_); (· simp [evb, pvb, rnb, kb, hN, h1, dyb, sdb] <;> omega); (· kernel_rfl); try simp only [evb, pvb, rnb, kb, hN, seval, h1]))
  refine wl_eqlNilS (by kernel_rfl) (by simp [evb, kb, hN, sdb]) ?_
  rcases oa with _ | ad
  · have e : nilB (none : Option Addr).isNone l = zaN (-1) := rfl
    rw [e] at hlim ⊢
    simp only [evb, kb, hN, seval]
    refine zaa ?_; refine hK0 _ _ ?_; try clear hK0 K0
    refine wp_cond_true (by simp [evb, kb, hN, isNilS, sdb]) ?_
    refine wp_seq_k fun K hK => ?_; refine zac ?_; (repeat ((with_reducible refine zah ?_ ?_ ?_); (· simp [evb, pvb, rnb, kb, hN, h0, dyb, sdb] <;> omega); (· kernel_rfl); try simp only [evb, pvb, rnb, kb, hN, seval, h0]))
    refine zar (fun args w => Tryd.call31 args w) (AppendVarint_c (-1) (by omega)) (by simp only [List.map_toArray, List.map_cons, List.map_nil]; simp only [evb, pvb, rnb, kb, hN, seval, h0]) hown hlim hb trivial ?_
    intro v' w' happ
    (repeat ((with_reducible refine zah ?_ ?_ ?_); (· simp [evb, pvb, rnb, kb, hN, dyb, sdb] <;> omega); (· kernel_rfl); try simp only [evb, pvb, rnb, kb, hN, seval])); refine zaa ?_; refine hK _ _ ?_; clear hK K; refine wp_ret ⟨by simp [zab, hD], ?_⟩; simp only [evb, kb, hN, seval]
    exact happ
  · obtain rfl := hn rfl
    have hs := hsrc rfl
    simp only [evb, kb, hN, seval]
    refine zaa ?_; refine hK0 _ _ ?_; try clear hK0 K0
    refine wp_cond_false (by simp [evb, kb, hN, isNilS, sdb]) ?_
    refine wp_skip (hK _ _ ?_)
    clear hK K
    have e : nilB (some ad).isNone l = zaN l.length ++ l := rfl
    rw [e] at hlim ⊢
    rw [List.length_append] at hlim
    have hi : IntKind.i32.wrap (l.length : Int) = l.length := by rw [i32_wrap]; unfold wrap32i; omega
    refine wp_seq_k fun K hK => ?_; refine zac ?_; (repeat ((with_reducible refine zah ?_ ?_ ?_); (· simp [evb, pvb, rnb, kb, hN, h0, h1, hi, dyb, sdb] <;> omega); (· kernel_rfl); try simp only [evb, pvb, rnb, kb, hN, seval, h0, h1, hi]))
    refine zar (fun args w => Tryd.call31 args w) (AppendVarint_c l.length (by omega)) (by simp only [List.map_toArray, List.map_cons, List.map_nil]; simp only [evb, pvb, rnb, kb, hN, seval, h0]) hown (by omega) hb trivial ?_
    intro v1 w1 happ
    (repeat ((with_reducible refine zah ?_ ?_ ?_); (· simp [evb, pvb, rnb, kb, hN, dyb, sdb] <;> omega); (· kernel_rfl); try simp only [evb, pvb, rnb, kb, hN, seval])); refine zaa ?_; refine hK _ _ ?_; clear hK K
    refine wp_seq_k fun K hK => ?_; refine zac ?_; (repeat ((with_reducible refine zah ?_ ?_ ?_); (· simp [evb, pvb, rnb, kb, hN, h1, dyb, sdb] <;> omega); (· kernel_rfl); try simp only [evb, pvb, rnb, kb, hN, seval, h1]))
    refine wl_append (c := cap) (oa := some ad) bT (by simp only [evb, pvb, rnb, kb, hN, seval]) (by simp only [evb, pvb, rnb, kb, hN, seval]) happ.own (hs.chg happ.chg fun g hg _ e => hG g e hg) (by rw [List.length_append]; omega) (Nat.le_trans hb happ.chg.size) ?_
    intro v2 w2 happ2
    (repeat ((with_reducible refine zah ?_ ?_ ?_); (· simp [evb, pvb, rnb, kb, hN, dyb, sdb] <;> omega); (· kernel_rfl); try simp only [evb, pvb, rnb, kb, hN, seval])); refine zaa ?_; refine hK _ _ ?_; clear hK K; refine wp_ret ⟨by simp [zab, hD], ?_⟩; simp only [evb, kb, hN, seval]
    rw [← List.append_assoc]
    exact happ.trans happ2
theorem AppendVarintString_c (l : Bs) (hl : l.length < 2147483648) : AppC 35 [.string ⟨l.toArray⟩] (zaN l.length ++ l) (fun _ => True) := by
  intro w base v bs hown hlim hb hpre
  refine zaj Tryd.func35 rfl rfl Tryd.ntmps35 (by simp) ?_
  intro a hN hD ha
  have h0 : get a 0 = v := ha 0 _ rfl
  have h1 : get a 1 = .string ⟨l.toArray⟩ := ha 1 _ rfl
  refine wp_seq_k fun K hK => ?_; refine zac ?_; refine zaF ?_; refine zaa ?_; refine hK _ _ ?_; clear hK K
  rw [List.length_append] at hlim
  have hi : IntKind.i32.wrap (l.length : Int) = l.length := by rw [i32_wrap]; unfold wrap32i; omega
  have hsz : (⟨l.toArray⟩ : ByteArray).size = l.length := by simp [ByteArray.size]
  refine wp_seq_k fun K hK => ?_; refine zac ?_; (repeat (first | ((with_reducible refine zav ?_ ?_ ?_ ?_); (· exact rfl); (· simp [evb, kb, hN, h0, h1, hsz, dyb, sdb] <;> omega); (· kernel_rfl); try simp only [evb, kb, hN, seval, pvb, h0, h1, hsz]) | ((with_reducible refine zag ?_ ?_ ?_); rotate_left 1; (· simp [evb, kb, hN, h0, h1, hsz, sdb]); rotate_left 1; (· kernel_rfl); try simp only [evb, kb, hN, seval, pvb, h0, h1, hsz])))
  rw [hi]
  refine zar (fun args w => Tryd.call31 args w) (AppendVarint_c l.length (by omega)) (by simp only [List.map_toArray, List.map_cons, List.map_nil]; simp only [evb, pvb, rnb, kb, hN, seval, h0]) hown (by omega) hb trivial ?_
  intro v1 w1 happ
  (repeat ((with_reducible refine zah ?_ ?_ ?_); (· simp [evb, pvb, rnb, kb, hN, dyb, sdb] <;> omega); (· kernel_rfl); try simp only [evb, pvb, rnb, kb, hN, seval])); refine zaa ?_; refine hK _ _ ?_; clear hK K
  refine wp_seq_k fun K hK => ?_; refine zac ?_; (repeat ((with_reducible refine zah ?_ ?_ ?_); (· simp [evb, pvb, rnb, kb, hN, h1, dyb, sdb] <;> omega); (· kernel_rfl); try simp only [evb, pvb, rnb, kb, hN, seval, h1]))
  refine wl_appendStr bT (by kernel_rfl) l (by simp only [evb, pvb, rnb, kb, hN, seval]) (by simp only [evb, pvb, rnb, kb, hN, seval]) happ.own (by rw [List.length_append]; omega) (Nat.le_trans hb happ.chg.size) ?_
  intro v2 w2 happ2
  (repeat ((with_reducible refine zah ?_ ?_ ?_); (· simp [evb, pvb, rnb, kb, hN, dyb, sdb] <;> omega); (· kernel_rfl); try simp only [evb, pvb, rnb, kb, hN, seval])); refine zaa ?_; refine hK _ _ ?_; clear hK K; refine wp_ret ⟨by simp [zab, hD], ?_⟩; simp only [evb, kb, hN, seval]
  rw [← List.append_assoc]
  exact happ.trans happ2
end Go.Proofs.YtojpodeljpfgaaaDoor
