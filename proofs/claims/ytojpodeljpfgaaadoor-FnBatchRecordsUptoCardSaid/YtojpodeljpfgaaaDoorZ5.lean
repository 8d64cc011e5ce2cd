import Derived.Test.YtojpodeljpfgaaaDoorZ4
import Derived.Test.YtojpodeljpfgaaaDoorZB
import Derived.Test.YtojpodeljpfgaaaDoorZL
import Derived.Test.YtojpodeljpfgaaaDoorZ3
import Derived.Test.YtojpodeljpfgaaaDoorZA
import Derived.Test.YtojpodeljpfgaaaDoorZS
import Derived.Test.YtojpodeljpfgaaaDoorZK
/-
What the proofs of the laws rest on, part Z5.
-/
namespace Go.Proofs.YtojpodeljpfgaaaDoor
set_option linter.all false
open Go.RowKit
set_option maxRecDepth 10000
set_option maxHeartbeats 2000000
theorem and1_u32 (x : Nat) (h : x < 4294967296) : andV (.int .u32 x) (.int .u32 1) = .int .u32 ((x : Int) % 2) := by
  have e : ((BitVec.ofInt 32 (x : Int) &&& BitVec.ofInt 32 1).toNat : Int) = (x : Int) % 2 := by
    have h1 := toNat_ofInt 32 (x : Int)
    have h2 : (BitVec.ofInt 32 1).toNat = 2 ^ 1 - 1 := rfl
    rw [BitVec.toNat_and, h2, Nat.and_two_pow_sub_one_eq_mod]
    have : (2 : Int) ^ 32 = 4294967296 := by decide
    rw [this] at h1
    omega
  show Value.int .u32 (IntKind.u32.wrap _) = _
  congr 1
  have e2 : ((BitVec.ofInt IntKind.u32.bits (x : Int) &&& BitVec.ofInt IntKind.u32.bits 1).toNat : Int) = (x : Int) % 2 := e
  rw [e2, IntKind.wrap_u32]; omega
theorem and1_u64 (x : Nat) (h : x < 18446744073709551616) : andV (.int .u64 x) (.int .u64 1) = .int .u64 ((x : Int) % 2) := by
  have e : ((BitVec.ofInt 64 (x : Int) &&& BitVec.ofInt 64 1).toNat : Int) = (x : Int) % 2 := by
    have h1 := toNat_ofInt 64 (x : Int)
    have h2 : (BitVec.ofInt 64 1).toNat = 2 ^ 1 - 1 := rfl
    rw [BitVec.toNat_and, h2, Nat.and_two_pow_sub_one_eq_mod]
    have : (2 : Int) ^ 64 = 18446744073709551616 := by decide
    rw [this] at h1
    omega
  show Value.int .u64 (IntKind.u64.wrap _) = _
  congr 1
  have e2 : ((BitVec.ofInt IntKind.u64.bits (x : Int) &&& BitVec.ofInt IntKind.u64.bits 1).toNat : Int) = (x : Int) % 2 := e
  rw [e2, wrap_u64]; omega
theorem uvR_lt {bs : Bs} {x : Nat} {m : Int} (h : uvR bs x m) : x < 4294967296 := by
  unfold uvR at h
  cases h2 : rUvar bs with
  | none => rw [h2] at h; omega
  | some y => rw [h2] at h; obtain ⟨rfl, _⟩ := h; exact uv_lt (r := y.2) h2
theorem uvR64_lt {bs : Bs} {x : Nat} {m : Int} (h : uvR64 bs x m) : x < 18446744073709551616 := by
  unfold uvR64 at h
  cases h2 : rUvl 9 bs with
  | none => rw [h2] at h; omega
  | some y => rw [h2] at h; obtain ⟨rfl, _⟩ := h; exact uvl_lt 9 (r := y.2) h2
theorem Varint_c (w : World) (G : Nat → Prop) (oa : Option Addr) (bs : Bs) (cap : Nat) (hb : zam w G oa bs) : zan Tryd.prog 71 #[.slice oa bs.length cap] w fun v w' => w' = w ∧ ∃ x m, v = .tuple #[.int .i32 (unzz x), .int .i64 m] ∧ uvR bs x m := by
  refine callsR_of2 Tryd.func71 rfl rfl Tryd.ntmps71 (by simp) ?_
  intro a hN hD ha
  have h0 : get a 0 = .slice oa bs.length cap := ha 0 _ rfl
  refine wp_seq_k fun K hK => ?_; refine zac ?_; (repeat ((with_reducible refine zah ?_ ?_ ?_); (· simp [evb, pvb, rnb, kb, hN, dyb, sdb] <;> omega); (· kernel_rfl); try simp only [evb, pvb, rnb, kb, hN, seval])); refine zaa ?_; refine hK _ _ ?_; clear hK K
  refine wp_seq_k fun K hK => ?_; refine zac ?_; (repeat ((with_reducible refine zah ?_ ?_ ?_); (· simp [evb, pvb, rnb, kb, hN, h0, dyb, sdb] <;> omega); (· kernel_rfl); try simp only [evb, pvb, rnb, kb, hN, seval, h0]))
  refine zak (fun args w => Tryd.call77 args w) (by simp only [List.map_toArray, List.map_cons, List.map_nil]; simp only [evb, pvb, rnb, kb, hN, seval]; exact uvarint_c w G oa bs cap hb) ?_
  rintro _ _ ⟨rfl, x, m, rfl, hu⟩
  have hx := uvR_lt hu
  (repeat ((with_reducible refine zah ?_ ?_ ?_); (· simp [evb, pvb, rnb, kb, hN, dyb, sdb] <;> omega); (· kernel_rfl); try simp only [evb, pvb, rnb, kb, hN, seval])); refine zaa ?_; refine hK _ _ ?_; clear hK K
  refine wp_seq_k fun K hK => ?_; refine zac ?_; (repeat ((with_reducible refine zah ?_ ?_ ?_); (· simp [evb, pvb, rnb, kb, hN, and1_u32 x hx, dyb, sdb] <;> omega); (· kernel_rfl); try simp only [evb, pvb, rnb, kb, hN, seval, and1_u32 x hx]))
  refine wl_neg (k := .u32) (m := (x : Int) % 2) (by simp only [evb, pvb, rnb, kb, hN, seval, and1_u32 x hx]; try rfl) ?_
  refine wl_xor (k := .u32) (m := (x : Int) / 2) (n := IntKind.u32.wrap (-((x : Int) % 2))) (by simp only [evb, pvb, rnb, kb, hN, seval]; try rfl) (by simp only [evb, pvb, rnb, kb, hN, seval]; try rfl) ?_
  (repeat ((with_reducible refine zah ?_ ?_ ?_); (· simp [evb, pvb, rnb, kb, hN, back32 hx, dyb, sdb] <;> omega); (· kernel_rfl); try simp only [evb, pvb, rnb, kb, hN, seval, back32 hx])); refine zaa ?_; refine hK _ _ ?_; clear hK K
  refine wp_ret ⟨by simp only [zab, hD], rfl, x, m, ?_, hu⟩
  simp only [evb, pvb, rnb, kb, hN, seval]
theorem Varlong_c (w : World) (G : Nat → Prop) (oa : Option Addr) (bs : Bs) (cap : Nat) (hb : zam w G oa bs) : zan Tryd.prog 72 #[.slice oa bs.length cap] w fun v w' => w' = w ∧ ∃ x m, v = .tuple #[.int .i64 (unzz x), .int .i64 m] ∧ uvR64 bs x m := by
  refine callsR_of2 Tryd.func72 rfl rfl Tryd.ntmps72 (by simp) ?_
  intro a hN hD ha
  have h0 : get a 0 = .slice oa bs.length cap := ha 0 _ rfl
  refine wp_seq_k fun K hK => ?_; refine zac ?_; (repeat ((with_reducible refine zah ?_ ?_ ?_); (· simp [evb, pvb, rnb, kb, hN, dyb, sdb] <;> omega); (· kernel_rfl); try simp only [evb, pvb, rnb, kb, hN, seval])); refine zaa ?_; refine hK _ _ ?_; clear hK K
  refine wp_seq_k fun K hK => ?_; refine zac ?_; (repeat ((with_reducible refine zah ?_ ?_ ?_); (· simp [evb, pvb, rnb, kb, hN, h0, dyb, sdb] <;> omega); (· kernel_rfl); try simp only [evb, pvb, rnb, kb, hN, seval, h0]))
  refine zak (fun args w => Tryd.call78 args w) (by simp only [List.map_toArray, List.map_cons, List.map_nil]; simp only [evb, pvb, rnb, kb, hN, seval]; exact uvarlong_c w G oa bs cap hb) ?_
  rintro _ _ ⟨rfl, x, m, rfl, hu⟩
  have hx := uvR64_lt hu
  (repeat ((with_reducible refine zah ?_ ?_ ?_); (· simp [evb, pvb, rnb, kb, hN, dyb, sdb] <;> omega); (· kernel_rfl); try simp only [evb, pvb, rnb, kb, hN, seval])); refine zaa ?_; refine hK _ _ ?_; clear hK K
  refine wp_seq_k fun K hK => ?_; refine zac ?_; (repeat ((with_reducible refine zah ?_ ?_ ?_); (· simp [evb, pvb, rnb, kb, hN, and1_u64 x hx, dyb, sdb] <;> omega); (· kernel_rfl); try simp only [evb, pvb, rnb, kb, hN, seval, and1_u64 x hx]))
  refine wl_neg (k := .u64) (m := (x : Int) % 2) (by simp only [evb, pvb, rnb, kb, hN, seval, and1_u64 x hx]; try rfl) ?_
  refine wl_xor (k := .u64) (m := (x : Int) / 2) (n := IntKind.u64.wrap (-((x : Int) % 2))) (by simp only [evb, pvb, rnb, kb, hN, seval]; try rfl) (by simp only [evb, pvb, rnb, kb, hN, seval]; try rfl) ?_
  (repeat ((with_reducible refine zah ?_ ?_ ?_); (· simp [evb, pvb, rnb, kb, hN, back64 hx, dyb, sdb] <;> omega); (· kernel_rfl); try simp only [evb, pvb, rnb, kb, hN, seval, back64 hx])); refine zaa ?_; refine hK _ _ ?_; clear hK K
  refine wp_ret ⟨by simp only [zab, hD], rfl, x, m, ?_, hu⟩
  simp only [evb, pvb, rnb, kb, hN, seval]
def RdN (w : World) (G : Nat → Prop) (R : Nat) (bs : Bs) : Prop := ∃ b cap, Blk w R [.slice (some b) bs.length cap, .bool false] tR ∧ bs.length ≤ cap ∧ zam w G (some b) bs
theorem RdN.s {w : World} {G : Nat → Prop} {R : Nat} {bs : Bs} (h : RdN w G R bs) : RdS w G R (some bs) := by
  obtain ⟨b, cap, h1, h2, h3⟩ := h
  exact ⟨some b, cap, h1, h2, h3⟩
theorem RdS.n {w : World} {G : Nat → Prop} {R : Nat} {bs : Bs} (h : RdS w G R (some bs)) (h0 : bs ≠ []) : RdN w G R bs := by
  obtain ⟨oa, cap, h1, h2, h3⟩ := h
  obtain ⟨b, o, rfl, _⟩ := h3.at_ h0
  exact ⟨_, cap, h1, h2, h3⟩
def RdOk {α : Type} (f : FuncId) (args : List Value) (sem : Bs → Option (α × Bs)) (out : World → (Nat → Prop) → α → Value → Prop) : Prop :=
  ∀ (w : World) (G : Nat → Prop) (R : Nat) (bs : Bs) (x : α) (r : Bs), RdS w G R (some bs) → ¬ G R → (∀ k, w.heap.size ≤ k → G k) → sem bs = some (x, r) →
    zan Tryd.prog f (.pointer (some ⟨R, 0, none⟩) :: args).toArray w fun v w' => out w' G x v ∧ Chg (fun k => k = R) w w' ∧ RdS w' G R (some r)
theorem RdOk.of {α : Type} {f : FuncId} {args : List Value} {sem : Bs → Option (α × Bs)} {o1 : World → World → (Nat → Prop) → α → Value → Prop} {out : World → (Nat → Prop) → α → Value → Prop} (h : RdF f args sem o1) (ho : ∀ w w' G x v, o1 w w' G x v → out w' G x v) : RdOk f args sem out := by
  intro w G R bs x r hS hR hf hs
  refine (h w G R (some bs) hS hR hf).mono ?_
  intro v w' hq
  obtain ⟨y, h1, h2⟩ := hq.val
  have h3 := hq.rd
  rw [Option.bind_some, hs] at h3 h2
  obtain rfl := h2 _ rfl
  exact ⟨ho _ _ _ _ _ h1, hq.chg, h3⟩
section
variable {ops : Array Oper} {Q : Exit → Act → World → Prop} {a : Act} {w : World} {rest : List Oper} {d : Option Nat} {ty : TypeId} {pos : String} {af : Array Edge} {ts : Array TypeId}
theorem wl_rdk {α : Type} {f : FuncId} {xs : Array Operand} {args : List Value} {sem : Bs → Option (α × Bs)} {out : World → (Nat → Prop) → α → Value → Prop} {G : Nat → Prop} {R : Nat} {bs r : Bs} {x : α}
    (hf : Enters Tryd.prog f) (hc : RdOk f args sem out) (hx : xs.map a.eval = (.pointer (some ⟨R, 0, none⟩) :: args).toArray) (hS : RdS w G R (some bs)) (hR : ¬ G R) (hG : ∀ k, w.heap.size ≤ k → G k) (hs : sem bs = some (x, r))
    (h : ∀ v w', out w' G x v → Chg (fun k => k = R) w w' → RdS w' G R (some r) → WL Tryd.prog ops Q rest (a.put d v) w') :
    WL Tryd.prog ops Q (⟨d, .call { callee := .value (.func f), args := xs, argTypes := ts }, ty, pos, af, none⟩ :: rest) a w :=
  zak (R := fun v w' => out w' G x v ∧ Chg (fun k => k = R) w w' ∧ RdS w' G R (some r)) hf (by rw [hx]; exact hc w G R bs x r hS hR hG hs) fun v w' hq => h v w' hq.1 hq.2.1 hq.2.2
end
def rVint (bs : Bs) : Option (Int × Bs) := (rUvar bs).map fun x => (unzz x.1, x.2)
def rVlong (bs : Bs) : Option (Int × Bs) := (rUvl 9 bs).map fun x => (unzz x.1, x.2)
theorem rVint_vint {n : Int} (h : -2147483648 ≤ n ∧ n < 2147483648) (r : Bs) : rVint (zaN n ++ r) = some (n, r) := by
  unfold rVint zaN
  rw [← uvar_uvl _ (zz_lt32 h), rUvar_uvar _ (zz_lt32 h), Option.map_some, unzz_zz]
theorem rVlong_vint {n : Int} (h : -9223372036854775808 ≤ n ∧ n < 9223372036854775808) (r : Bs) : rVlong (zaN n ++ r) = some (n, r) := by
  unfold rVlong zaN
  rw [rUvl_uvl _ (zz_lt64 h), Option.map_some, unzz_zz]
theorem RVarint_n {w : World} {G : Nat → Prop} {R : Nat} {bs r : Bs} {x : Int} (hS : RdS w G R (some bs)) (hR : ¬ G R) (hs : rVint bs = some (x, r)) :
    zan Tryd.prog 58 #[.pointer (some ⟨R, 0, none⟩)] w fun v w' => v = .int .i32 x ∧ Chg (fun k => k = R) w w' ∧ RdN w' G R r := by
  unfold rVint at hs
  cases h2 : rUvar bs with
  | none => rw [h2] at hs; cases hs
  | some y =>
  rw [h2] at hs
  simp only [Option.map_some, Option.some.injEq, Prod.mk.injEq] at hs
  obtain ⟨rfl, rfl⟩ := hs
  have h0n : bs ≠ [] := by rintro rfl; cases h2
  obtain ⟨oa, cap, hb, hcap, hat⟩ := hS
  obtain ⟨b, o, rfl, _⟩ := hat.at_ h0n
  have l0 := hb.ld (i := 0) rfl
  refine zaj Tryd.func58 rfl rfl Tryd.ntmps58 (by simp) ?_
  intro a hN hD ha
  have h0 : get a 0 = .pointer (some ⟨R, 0, none⟩) := ha 0 _ rfl
  refine wp_seq_k fun K hK => ?_; refine zac ?_; (repeat ((with_reducible refine zah ?_ ?_ ?_); (· simp [evb, pvb, rnb, kb, hN, dyb, sdb] <;> omega); (· kernel_rfl); try simp only [evb, pvb, rnb, kb, hN, seval])); refine zaa ?_; refine hK _ _ ?_; clear hK K
  refine wp_seq_k fun K hK => ?_; refine zac ?_; (repeat ((with_reducible refine zah ?_ ?_ ?_); (· simp [evb, pvb, rnb, kb, hN, h0, l0, fo, dyb, sdb] <;> omega); (· kernel_rfl); try simp only [evb, pvb, rnb, kb, hN, seval, h0, l0, fo]))
  refine zak (fun args w => Tryd.call71 args w) (by simp only [List.map_toArray, List.map_cons, List.map_nil]; simp only [evb, pvb, rnb, kb, hN, seval]; exact Varint_c w G (some ⟨b, o, none⟩) bs cap hat) ?_
  rintro _ _ ⟨rfl, x, m, rfl, hu⟩
  unfold uvR at hu
  rw [h2] at hu
  obtain ⟨rfl, hm, hl, hr⟩ := hu
  (repeat ((with_reducible refine zah ?_ ?_ ?_); (· simp [evb, pvb, rnb, kb, hN, dyb, sdb] <;> omega); (· kernel_rfl); try simp only [evb, pvb, rnb, kb, hN, seval])); refine zaa ?_; refine hK _ _ ?_; clear hK K
  refine wp_seq_k fun K hK => ?_
  have d1 : decide (m ≤ 0) = false := decide_eq_false (by omega)
  refine wp_seq_k fun K0 hK0 => ?_; refine zac ?_; (repeat ((with_reducible refine zah ?_ ?_ ?_); (· simp [evb, pvb, rnb, kb, hN, d1, dyb, sdb] <;> omega); (· kernel_rfl); try simp only [evb, pvb, rnb, kb, hN, seval, d1])); refine zaa ?_; refine hK0 _ _ ?_; try clear hK0 K0
  refine wp_cond_false (by simp only [evb, pvb, rnb, kb, hN, seval]) ?_
  refine wp_skip ?_
  refine hK _ _ ?_
  clear hK K
  have d2 : decide (m ≤ (bs.length : Int)) = true := decide_eq_true hl
  have d3 : decide (0 ≤ m) = true := decide_eq_true (by omega)
  refine wp_seq_k fun K hK => ?_; refine zac ?_; (repeat ((with_reducible refine zah ?_ ?_ ?_); (· simp [evb, pvb, rnb, kb, hN, h0, l0, fo, d2, d3, dyb, sdb] <;> omega); (· kernel_rfl); try simp only [evb, pvb, rnb, kb, hN, seval, h0, l0, fo, d2, d3]))
  obtain ⟨ad, had⟩ : ∃ ad, (if cap = m.toNat then (some ⟨b, o, none⟩ : Option Addr) else (some (⟨b, o, none⟩ : Addr)).map (·.add (m.toNat * 1))) = some ad := by split <;> exact ⟨_, rfl⟩
  refine zap (b := R) (o := 0) (n := 1) (v := .slice (some ad) (bs.length - m.toNat) (cap - m.toNat)) (by kernel_rfl) (by simp only [evb, pvb, rnb, kb, hN, seval]) (by rw [← had]; simp only [evb, pvb, rnb, kb, hN, seval]; try rfl) hb rfl (by intro y hy; simp only [Value.cells, List.mem_singleton] at hy; subst hy; rfl) (by simp) fun w2 hb2 hc2 => ?_
  refine zaa ?_; refine hK _ _ ?_; clear hK K
  have hat3 := ((bytes_rest (i := m.toNat) hat hcap).chg hc2 fun g hg _ e => hR (e ▸ hg))
  rw [had] at hat3
  have hlr : y.2.length = bs.length - m.toNat := by rw [hr, List.length_drop]
  refine wp_seq_k fun K hK => ?_; refine zac ?_; (repeat ((with_reducible refine zah ?_ ?_ ?_); (· simp [evb, pvb, rnb, kb, hN, dyb, sdb] <;> omega); (· kernel_rfl); try simp only [evb, pvb, rnb, kb, hN, seval])); refine zaa ?_; refine hK _ _ ?_; clear hK K
  refine wp_ret ⟨by simp [zab, hD], ?_⟩; simp only [evb, kb, hN, seval]
  refine ⟨by first | rfl | trivial, hc2, ad, cap - m.toNat, ?_, by omega, by rw [hr]; exact hat3⟩
  rw [hlr]
  exact hb2
theorem RVarlong_n {w : World} {G : Nat → Prop} {R : Nat} {bs r : Bs} {x : Int} (hS : RdS w G R (some bs)) (hR : ¬ G R) (hs : rVlong bs = some (x, r)) :
    zan Tryd.prog 59 #[.pointer (some ⟨R, 0, none⟩)] w fun v w' => v = .int .i64 x ∧ Chg (fun k => k = R) w w' ∧ RdN w' G R r := by
  unfold rVlong at hs
  cases h2 : rUvl 9 bs with
  | none => rw [h2] at hs; cases hs
  | some y =>
  rw [h2] at hs
  simp only [Option.map_some, Option.some.injEq, Prod.mk.injEq] at hs
  obtain ⟨rfl, rfl⟩ := hs
  have h0n : bs ≠ [] := by rintro rfl; cases h2
  obtain ⟨oa, cap, hb, hcap, hat⟩ := hS
  obtain ⟨b, o, rfl, _⟩ := hat.at_ h0n
  have l0 := hb.ld (i := 0) rfl
  refine zaj Tryd.func59 rfl rfl Tryd.ntmps59 (by simp) ?_
  intro a hN hD ha
  have h0 : get a 0 = .pointer (some ⟨R, 0, none⟩) := ha 0 _ rfl
  refine wp_seq_k fun K hK => ?_; refine zac ?_; (repeat ((with_reducible refine zah ?_ ?_ ?_); (· simp [evb, pvb, rnb, kb, hN, dyb, sdb] <;> omega); (· kernel_rfl); try simp only [evb, pvb, rnb, kb, hN, seval])); refine zaa ?_; refine hK _ _ ?_; clear hK K
  refine wp_seq_k fun K hK => ?_; refine zac ?_; (repeat ((with_reducible refine zah ?_ ?_ ?_); (· simp [evb, pvb, rnb, kb, hN, h0, l0, fo, dyb, sdb] <;> omega); (· kernel_rfl); try simp only [evb, pvb, rnb, kb, hN, seval, h0, l0, fo]))
  refine zak (fun args w => Tryd.call72 args w) (by simp only [List.map_toArray, List.map_cons, List.map_nil]; simp only [evb, pvb, rnb, kb, hN, seval]; exact Varlong_c w G (some ⟨b, o, none⟩) bs cap hat) ?_
  rintro _ _ ⟨rfl, x, m, rfl, hu⟩
  unfold uvR64 at hu
  rw [h2] at hu
  obtain ⟨rfl, hm, hl, hr⟩ := hu
  (repeat ((with_reducible refine zah ?_ ?_ ?_); (· simp [evb, pvb, rnb, kb, hN, dyb, sdb] <;> omega); (· kernel_rfl); try simp only [evb, pvb, rnb, kb, hN, seval])); refine zaa ?_; refine hK _ _ ?_; clear hK K
  refine wp_seq_k fun K hK => ?_
  have d1 : decide (m ≤ 0) = false := decide_eq_false (by omega)
  refine wp_seq_k fun K0 hK0 => ?_; refine zac ?_; (repeat ((with_reducible refine zah ?_ ?_ ?_); (· simp [evb, pvb, rnb, kb, hN, d1, dyb, sdb] <;> omega); (· kernel_rfl); try simp only [evb, pvb, rnb, kb, hN, seval, d1])); refine zaa ?_; refine hK0 _ _ ?_; try clear hK0 K0
  refine wp_cond_false (by simp only [evb, pvb, rnb, kb, hN, seval]) ?_
  refine wp_skip ?_
  refine hK _ _ ?_
  clear hK K
  have d2 : decide (m ≤ (bs.length : Int)) = true := decide_eq_true hl
  have d3 : decide (0 ≤ m) = true := decide_eq_true (by omega)
  refine wp_seq_k fun K hK => ?_; refine zac ?_; (repeat ((with_reducible refine zah ?_ ?_ ?_); (· simp [evb, pvb, rnb, kb, hN, h0, l0, fo, d2, d3, dyb, sdb] <;> omega); (· kernel_rfl); try simp only [evb, pvb, rnb, kb, hN, seval, h0, l0, fo, d2, d3]))
  obtain ⟨ad, had⟩ : ∃ ad, (if cap = m.toNat then (some ⟨b, o, none⟩ : Option Addr) else (some (⟨b, o, none⟩ : Addr)).map (·.add (m.toNat * 1))) = some ad := by split <;> exact ⟨_, rfl⟩
  refine zap (b := R) (o := 0) (n := 1) (v := .slice (some ad) (bs.length - m.toNat) (cap - m.toNat)) (by kernel_rfl) (by simp only [evb, pvb, rnb, kb, hN, seval]) (by rw [← had]; simp only [evb, pvb, rnb, kb, hN, seval]; try rfl) hb rfl (by intro y hy; simp only [Value.cells, List.mem_singleton] at hy; subst hy; rfl) (by simp) fun w2 hb2 hc2 => ?_
  refine zaa ?_; refine hK _ _ ?_; clear hK K
  have hat3 := ((bytes_rest (i := m.toNat) hat hcap).chg hc2 fun g hg _ e => hR (e ▸ hg))
  rw [had] at hat3
  have hlr : y.2.length = bs.length - m.toNat := by rw [hr, List.length_drop]
  refine wp_seq_k fun K hK => ?_; refine zac ?_; (repeat ((with_reducible refine zah ?_ ?_ ?_); (· simp [evb, pvb, rnb, kb, hN, dyb, sdb] <;> omega); (· kernel_rfl); try simp only [evb, pvb, rnb, kb, hN, seval])); refine zaa ?_; refine hK _ _ ?_; clear hK K
  refine wp_ret ⟨by simp [zab, hD], ?_⟩; simp only [evb, kb, hN, seval]
  refine ⟨by first | rfl | trivial, hc2, ad, cap - m.toNat, ?_, by omega, by rw [hr]; exact hat3⟩
  rw [hlr]
  exact hb2
theorem RVarint_k : RdOk 58 [] rVint fun _ _ x v => v = .int .i32 x := fun w G R bs x r hS hR _ hs => (RVarint_n hS hR hs).mono fun _ _ h => ⟨h.1, h.2.1, h.2.2.s⟩
theorem RVarlong_k : RdOk 59 [] rVlong fun _ _ x v => v = .int .i64 x := fun w G R bs x r hS hR _ hs => (RVarlong_n hS hR hs).mono fun _ _ h => ⟨h.1, h.2.1, h.2.2.s⟩
def outNB (w : World) (G : Nat → Prop) (o : Option Bs) (v : Value) : Prop := match o with
  | none => v = .slice none 0 0
  | some l => ∃ b cap, v = .slice (some b) l.length cap ∧ l.length ≤ cap ∧ zam w G (some b) l
theorem Span_n {w : World} {G : Nat → Prop} {R n : Nat} {bs : Bs} (hS : RdN w G R bs) (hR : ¬ G R) (hn : n ≤ bs.length) :
    zan Tryd.prog 52 #[.pointer (some ⟨R, 0, none⟩), .int .i64 n] w fun v w' => outNB w' G (some (bs.take n)) v ∧ Chg (fun k => k = R) w w' ∧ RdS w' G R (some (bs.drop n)) := by
  obtain ⟨ad, cap, hb, hcap, hat⟩ := hS
  have l0 := hb.ld (i := 0) rfl
  refine zaj Tryd.func52 rfl rfl Tryd.ntmps52 (by simp) ?_
  intro a hN hD ha
  have h0 : get a 0 = .pointer (some ⟨R, 0, none⟩) := ha 0 _ rfl
  have h1 : get a 1 = .int .i64 n := ha 1 _ rfl
  have d1 : decide ((bs.length : Int) < (n : Int)) = false := decide_eq_false (by omega)
  have d2 : decide ((n : Int) < 0) = false := decide_eq_false (by omega)
  have d3 : decide ((0 : Int) ≤ (n : Int)) = true := decide_eq_true (by omega)
  have d4 : decide ((n : Int) ≤ (cap : Int)) = true := decide_eq_true (by omega)
  have d5 : decide ((n : Int) ≤ ((n : Int).toNat : Int)) = true := decide_eq_true (by omega)
  have d6 : decide ((n : Int) ≤ (bs.length : Int)) = true := decide_eq_true (by omega)
  refine wp_seq_k fun K hK => ?_; refine zac ?_; (repeat ((with_reducible refine zah ?_ ?_ ?_); (· simp [evb, pvb, rnb, kb, hN, dyb, sdb] <;> omega); (· kernel_rfl); try simp only [evb, pvb, rnb, kb, hN, seval])); refine zaa ?_; refine hK _ _ ?_; clear hK K
  refine wp_seq_k fun K hK => ?_; refine wp_seq_k fun K0 hK0 => ?_; refine zac ?_; (repeat (first | ((with_reducible refine zah ?_ ?_ ?_); (· simp [evb, pvb, rnb, kb, hN, seval, h0, h1, l0, fo, d1, d2, dyb, sdb] <;> omega); (· kernel_rfl); try simp only [evb, pvb, rnb, kb, hN, seval, h0, h1, l0, fo, d1, d2]) | ((with_reducible apply zau); (· exact rfl); (· exact rfl); (· simp [evb, pvb, rnb, kb, hN, seval, h0, h1, l0, fo, d1, d2]; done); try simp only [evb, pvb, rnb, kb, hN, seval, h0, h1, l0, fo, d1, d2]) | ((with_reducible apply zaD); (· exact rfl); (· exact rfl); (· simp [evb, pvb, rnb, kb, hN, seval, h0, h1, l0, fo, d1, d2]; done); try simp only [evb, pvb, rnb, kb, hN, seval, h0, h1, l0, fo, d1, d2]) | ((with_reducible apply zaE); (· exact rfl); (· exact rfl); (· simp [evb, pvb, rnb, kb, hN, seval, h0, h1, l0, fo, d1, d2]; done); try simp only [evb, pvb, rnb, kb, hN, seval, h0, h1, l0, fo, d1, d2]))); refine zaa ?_; refine hK0 _ _ ?_; try clear hK0 K0
  refine wp_cond_false (by simp only [evb, pvb, rnb, kb, hN, seval]) ?_
  refine wp_skip ?_
  refine hK _ _ ?_
  clear hK K
  refine wp_seq_k fun K hK => ?_; refine zac ?_; (repeat ((with_reducible refine zah ?_ ?_ ?_); (· simp [evb, pvb, rnb, kb, hN, h0, h1, l0, fo, d3, d4, d5, dyb, sdb] <;> omega); (· kernel_rfl); try simp only [evb, pvb, rnb, kb, hN, seval, h0, h1, l0, fo, d3, d4, d5])); refine zaa ?_; refine hK _ _ ?_; clear hK K
  refine wp_seq_k fun K hK => ?_; refine zac ?_; (repeat ((with_reducible refine zah ?_ ?_ ?_); (· simp [evb, pvb, rnb, kb, hN, h0, h1, l0, fo, d3, d6, dyb, sdb] <;> omega); (· kernel_rfl); try simp only [evb, pvb, rnb, kb, hN, seval, h0, h1, l0, fo, d3, d6]))
  refine zap (b := R) (o := 0) (n := 1) (v := .slice (if cap = n then (some ad : Option Addr) else (some ad : Option Addr).map (·.add (n * 1))) (bs.length - n) (cap - n)) (by kernel_rfl) (by simp only [evb, pvb, rnb, kb, hN, seval]) (by simp only [evb, pvb, rnb, kb, hN, seval, Int.toNat_natCast]; try rfl) hb rfl (by intro y hy; simp only [Value.cells, List.mem_singleton] at hy; subst hy; rfl) (by simp) fun w2 hb2 hc2 => ?_
  refine zaa ?_; refine hK _ _ ?_; clear hK K
  refine wp_seq_k fun K hK => ?_; refine zac ?_; (repeat ((with_reducible refine zah ?_ ?_ ?_); (· simp [evb, pvb, rnb, kb, hN, h0, dyb, sdb] <;> omega); (· kernel_rfl); try simp only [evb, pvb, rnb, kb, hN, seval, h0])); refine zaa ?_; refine hK _ _ ?_; clear hK K
  refine wp_ret ⟨by simp [zab, hD], ?_⟩; simp only [evb, kb, hN, seval]
  have hx : ∀ g, G g → g < w.heap.size → ¬ g = R := fun g hg _ e => hR (e ▸ hg)
  have hat3 := ((bytes_rest (i := n) hat hcap).chg hc2 hx)
  have e : (bs.take n).length = n := by rw [List.length_take]; omega
  refine ⟨⟨ad, n, ?_, by omega, (hat.take _).chg hc2 hx⟩, hc2, _, cap - n, ?_, ?_, hat3⟩
  · rw [e, Int.toNat_natCast]
  · rw [List.length_drop]; exact hb2
  · rw [List.length_drop]; omega
def rVBytes (bs : Bs) : Option (Option Bs × Bs) := (rVint bs).bind fun x => if x.1 < 0 then some (none, x.2) else if x.1.toNat ≤ x.2.length then some (some (x.2.take x.1.toNat), x.2.drop x.1.toNat) else none
theorem rVBytes_none (r : Bs) : rVBytes (zaN (-1) ++ r) = some (none, r) := by
  unfold rVBytes
  rw [rVint_vint (by omega), Option.bind_some, if_pos (by omega)]
theorem rVBytes_some {l : Bs} (h : l.length < 2147483648) (r : Bs) : rVBytes (zaN l.length ++ (l ++ r)) = some (some l, r) := by
  unfold rVBytes
  rw [rVint_vint (by omega), Option.bind_some, if_neg (by simp), if_pos (by simp)]
  simp
theorem VarintBytes_k : RdOk 60 [] rVBytes outNB := by
  intro w G R bs x r hS hR hf hs
  unfold rVBytes at hs
  cases h2 : rVint bs with
  | none => rw [h2] at hs; cases hs
  | some y =>
  rw [h2, Option.bind_some] at hs
  refine zaj Tryd.func60 rfl rfl Tryd.ntmps60 (by simp) ?_
  intro a hN hD ha
  have h0 : get a 0 = .pointer (some ⟨R, 0, none⟩) := ha 0 _ rfl
  refine wp_seq_k fun K hK => ?_; refine zac ?_; (repeat ((with_reducible refine zah ?_ ?_ ?_); (· simp [evb, pvb, rnb, kb, hN, dyb, sdb] <;> omega); (· kernel_rfl); try simp only [evb, pvb, rnb, kb, hN, seval])); refine zaa ?_; refine hK _ _ ?_; clear hK K
  refine wp_seq_k fun K hK => ?_; refine zac ?_; (repeat ((with_reducible refine zah ?_ ?_ ?_); (· simp [evb, pvb, rnb, kb, hN, h0, dyb, sdb] <;> omega); (· kernel_rfl); try simp only [evb, pvb, rnb, kb, hN, seval, h0]))
  refine zak (fun args w => Tryd.call58 args w) (by simp only [List.map_toArray, List.map_cons, List.map_nil]; simp only [evb, pvb, rnb, kb, hN, seval, h0]; exact RVarint_n hS hR h2) ?_
  rintro _ w1 ⟨rfl, hc1, hN1⟩
  (repeat ((with_reducible refine zah ?_ ?_ ?_); (· simp [evb, pvb, rnb, kb, hN, dyb, sdb] <;> omega); (· kernel_rfl); try simp only [evb, pvb, rnb, kb, hN, seval])); refine zaa ?_; refine hK _ _ ?_; clear hK K
  by_cases hneg : y.1 < 0
  · rw [if_pos hneg] at hs
    simp only [Option.some.injEq, Prod.mk.injEq] at hs
    obtain ⟨rfl, rfl⟩ := hs
    have d1 : decide (y.1 < 0) = true := decide_eq_true hneg
    refine wp_seq_k fun K hK => ?_; refine wp_seq_k fun K0 hK0 => ?_; refine zac ?_; (repeat ((with_reducible refine zah ?_ ?_ ?_); (· simp [evb, pvb, rnb, kb, hN, d1, dyb, sdb] <;> omega); (· kernel_rfl); try simp only [evb, pvb, rnb, kb, hN, seval, d1])); refine zaa ?_; refine hK0 _ _ ?_; try clear hK0 K0
    refine wp_cond_true (by simp only [evb, pvb, rnb, kb, hN, seval]) ?_
    refine wp_seq_k fun K hK => ?_; refine zac ?_; (repeat ((with_reducible refine zah ?_ ?_ ?_); (· simp [evb, pvb, rnb, kb, hN, dyb, sdb] <;> omega); (· kernel_rfl); try simp only [evb, pvb, rnb, kb, hN, seval])); refine zaa ?_; refine hK _ _ ?_; clear hK K; refine wp_ret ⟨by simp [zab, hD], ?_⟩; simp only [evb, kb, hN, seval]
    exact ⟨rfl, hc1, hN1.s⟩
  · rw [if_neg hneg] at hs
    by_cases hl : y.1.toNat ≤ y.2.length
    · rw [if_pos hl] at hs
      simp only [Option.some.injEq, Prod.mk.injEq] at hs
      obtain ⟨rfl, rfl⟩ := hs
      have d1 : decide (y.1 < 0) = false := decide_eq_false hneg
      refine wp_seq_k fun K hK => ?_; refine wp_seq_k fun K0 hK0 => ?_; refine zac ?_; (repeat ((with_reducible refine zah ?_ ?_ ?_); (· simp [evb, pvb, rnb, kb, hN, d1, dyb, sdb] <;> omega); (· kernel_rfl); try simp only [evb, pvb, rnb, kb, hN, seval, d1])); refine zaa ?_; refine hK0 _ _ ?_; try clear hK0 K0
      refine wp_cond_false (by simp only [evb, pvb, rnb, kb, hN, seval]) ?_
      refine wp_skip (hK _ _ ?_)
      clear hK K
      have hbd : y.1 < 2147483648 := by
        unfold rVint at h2
        cases h3 : rUvar bs with
        | none => rw [h3] at h2; cases h2
        | some z =>
          rw [h3] at h2
          simp only [Option.map_some, Option.some.injEq] at h2
          have := uv_lt (r := z.2) (n := z.1) h3
          rw [← h2]
          show unzz z.1 < _
          unfold unzz; split <;> omega
      have hi : IntKind.i64.wrap y.1 = ((y.1.toNat : Nat) : Int) := by rw [i64_sm _ (by omega)]; omega
      refine wp_seq_k fun K hK => ?_; refine zac ?_; (repeat ((with_reducible refine zah ?_ ?_ ?_); (· simp [evb, pvb, rnb, kb, hN, h0, hi, dyb, sdb] <;> omega); (· kernel_rfl); try simp only [evb, pvb, rnb, kb, hN, seval, h0, hi]))
      refine zak (fun args w => Tryd.call52 args w) (by simp only [List.map_toArray, List.map_cons, List.map_nil]; simp only [evb, pvb, rnb, kb, hN, seval, h0]; exact Span_n hN1 hR hl) ?_
      rintro v2 w2 ⟨ho, hc2, hS2⟩
      (repeat ((with_reducible refine zah ?_ ?_ ?_); (· simp [evb, pvb, rnb, kb, hN, dyb, sdb] <;> omega); (· kernel_rfl); try simp only [evb, pvb, rnb, kb, hN, seval])); refine zaa ?_; refine hK _ _ ?_; clear hK K; refine wp_ret ⟨by simp [zab, hD], ?_⟩; simp only [evb, kb, hN, seval]
      exact ⟨ho, hc1.trans hc2 fun _ _ h => h, hS2⟩
    · rw [if_neg hl] at hs; cases hs
theorem VarintString_k : RdOk 65 [] (fun bs => (rVBytes bs).bind fun y => y.1.map fun l => (l, y.2)) fun _ _ x v => v = .string ⟨x.toArray⟩ := by
  intro w G R bs x r hS hR hf hs
  dsimp only at hs
  cases h2 : rVBytes bs with
  | none => rw [h2] at hs; cases hs
  | some y =>
  obtain ⟨o, r'⟩ := y
  rw [h2, Option.bind_some] at hs
  cases o with
  | none => cases hs
  | some l =>
  simp only [Option.map_some, Option.some.injEq, Prod.mk.injEq] at hs
  obtain ⟨rfl, rfl⟩ := hs
  refine zaj Tryd.func65 rfl rfl Tryd.ntmps65 (by simp) ?_
  intro a hN hD ha
  have h0 : get a 0 = .pointer (some ⟨R, 0, none⟩) := ha 0 _ rfl
  refine wp_seq_k fun K hK => ?_; refine zac ?_; (repeat ((with_reducible refine zah ?_ ?_ ?_); (· simp [evb, pvb, rnb, kb, hN, dyb, sdb] <;> omega); (· kernel_rfl); try simp only [evb, pvb, rnb, kb, hN, seval])); refine zaa ?_; refine hK _ _ ?_; clear hK K
  refine wp_seq_k fun K hK => ?_; refine zac ?_; (repeat ((with_reducible refine zah ?_ ?_ ?_); (· simp [evb, pvb, rnb, kb, hN, h0, dyb, sdb] <;> omega); (· kernel_rfl); try simp only [evb, pvb, rnb, kb, hN, seval, h0]))
  refine wl_rdk (fun args w => Tryd.call60 args w) VarintBytes_k (by simp only [List.map_toArray, List.map_cons, List.map_nil]; simp only [evb, pvb, rnb, kb, hN, seval, h0]) hS hR hf h2 ?_
  rintro _ w1 ⟨b, cap, rfl, hcap, hbt⟩ hc1 hS1
  refine wl_text (cap := cap) bT (by kernel_rfl) (by simp only [evb, pvb, rnb, kb, hN, seval]) hbt ?_
  (repeat ((with_reducible refine zah ?_ ?_ ?_); (· simp [evb, pvb, rnb, kb, hN, dyb, sdb] <;> omega); (· kernel_rfl); try simp only [evb, pvb, rnb, kb, hN, seval])); refine zaa ?_; refine hK _ _ ?_; clear hK K; refine wp_ret ⟨by simp [zab, hD], ?_⟩; simp only [evb, kb, hN, seval]
  exact ⟨by first | rfl | trivial, hc1, hS1⟩
theorem VarintArrayLen_k : RdOk 61 [] (fun bs => (rVint bs).bind fun y => if (y.2.length : Int) < y.1 then none else some y) fun _ _ x v => v = .int .i32 x := by
  intro w G R bs x r hS hR hf hs
  dsimp only at hs
  cases h2 : rVint bs with
  | none => rw [h2] at hs; cases hs
  | some y =>
  rw [h2, Option.bind_some] at hs
  by_cases hl : (y.2.length : Int) < y.1
  · rw [if_pos hl] at hs; cases hs
  rw [if_neg hl] at hs
  simp only [Option.some.injEq] at hs
  subst hs
  have hbd : -2147483648 ≤ x ∧ x < 2147483648 := by
    unfold rVint at h2
    cases h3 : rUvar bs with
    | none => rw [h3] at h2; cases h2
    | some z =>
      rw [h3] at h2
      simp only [Option.map_some, Option.some.injEq, Prod.mk.injEq] at h2
      have := uv_lt (r := z.2) (n := z.1) h3
      rw [← h2.1]
      unfold unzz; split <;> omega
  refine zaj Tryd.func61 rfl rfl Tryd.ntmps61 (by simp) ?_
  intro a hN hD ha
  have h0 : get a 0 = .pointer (some ⟨R, 0, none⟩) := ha 0 _ rfl
  refine wp_seq_k fun K hK => ?_; refine zac ?_; (repeat ((with_reducible refine zah ?_ ?_ ?_); (· simp [evb, pvb, rnb, kb, hN, dyb, sdb] <;> omega); (· kernel_rfl); try simp only [evb, pvb, rnb, kb, hN, seval])); refine zaa ?_; refine hK _ _ ?_; clear hK K
  refine wp_seq_k fun K hK => ?_; refine zac ?_; (repeat ((with_reducible refine zah ?_ ?_ ?_); (· simp [evb, pvb, rnb, kb, hN, h0, dyb, sdb] <;> omega); (· kernel_rfl); try simp only [evb, pvb, rnb, kb, hN, seval, h0]))
  refine zak (fun args w => Tryd.call58 args w) (by simp only [List.map_toArray, List.map_cons, List.map_nil]; simp only [evb, pvb, rnb, kb, hN, seval, h0]; exact RVarint_n hS hR h2) ?_
  rintro _ w1 ⟨rfl, hc1, b, cap, hb1, hcap, hat⟩
  (repeat ((with_reducible refine zah ?_ ?_ ?_); (· simp [evb, pvb, rnb, kb, hN, dyb, sdb] <;> omega); (· kernel_rfl); try simp only [evb, pvb, rnb, kb, hN, seval])); refine zaa ?_; refine hK _ _ ?_; clear hK K
  have l0 := hb1.ld (i := 0) rfl
  have hi : IntKind.i64.wrap x = x := i64_sm _ (by omega)
  have d1 : decide ((r.length : Int) < x) = false := decide_eq_false hl
  refine wp_seq_k fun K hK => ?_; refine wp_seq_k fun K0 hK0 => ?_; refine zac ?_; (repeat ((with_reducible refine zah ?_ ?_ ?_); (· simp [evb, pvb, rnb, kb, hN, h0, l0, fo, hi, d1, dyb, sdb] <;> omega); (· kernel_rfl); try simp only [evb, pvb, rnb, kb, hN, seval, h0, l0, fo, hi, d1])); refine zaa ?_; refine hK0 _ _ ?_; try clear hK0 K0
  refine wp_cond_false (by simp only [evb, pvb, rnb, kb, hN, seval]) ?_
  refine wp_skip (hK _ _ ?_)
  clear hK K
  refine wp_seq_k fun K hK => ?_; refine zac ?_; (repeat ((with_reducible refine zah ?_ ?_ ?_); (· simp [evb, pvb, rnb, kb, hN, dyb, sdb] <;> omega); (· kernel_rfl); try simp only [evb, pvb, rnb, kb, hN, seval])); refine zaa ?_; refine hK _ _ ?_; clear hK K; refine wp_ret ⟨by simp [zab, hD], ?_⟩; simp only [evb, kb, hN, seval]
  exact ⟨by first | rfl | trivial, hc1, some b, cap, hb1, hcap, hat⟩
end Go.Proofs.YtojpodeljpfgaaaDoor
namespace Go.Proofs.YtojpodeljpfgaaaDoor
set_option linter.all false
open Go.RowKit
set_option maxRecDepth 10000
set_option maxHeartbeats 2000000
def LsL {α : Type} (sz : Nat) (one : α → List Value → Prop) : List α → List Value → Prop
  | [], _ => True
  | x :: r, vs => one x (vs.take sz) ∧ LsL sz one r (vs.drop sz)
abbrev Ov (α : Type) := World → (Nat → Prop) → α → List Value → Prop
def LsS {α : Type} (sz : Nat) (one : Ov α) (w : World) (G : Nat → Prop) (l : List α) (v : Value) : Prop :=
  ∃ oa cap, v = .slice oa l.length cap ∧ l.length ≤ cap ∧ (l = [] ∨ ∃ b o cs T, oa = some ⟨b, o, none⟩ ∧ G b ∧ Rbk w b cs T ∧ LsL sz (one w G) l (cs.drop o))
structure One {α : Type} (sz : Nat) (one : Ov α) : Prop where
  pos : 0 < sz
  len : ∀ {w G x vs}, one w G x vs → vs.length = sz
  stay : ∀ {w w' G G' x vs}, Stay w w' G G' → one w G x vs → one w' G' x vs
  cell : ∀ {w G x vs}, one w G x vs → ∀ u ∈ vs, u.oneCell' = true
section
variable {α : Type} {sz : Nat} {one : Ov α}
theorem LsL.stay (h1 : One sz one) {w w' : World} {G G' : Nat → Prop} (st : Stay w w' G G') : ∀ {l : List α} {vs : List Value}, LsL sz (one w G) l vs → LsL sz (one w' G') l vs
  | [], _, _ => trivial
  | _ :: _, _, ⟨a, b⟩ => ⟨h1.stay st a, LsL.stay h1 st b⟩
theorem LsS.stay (h1 : One sz one) {w w' : World} {G G' : Nat → Prop} (st : Stay w w' G G') {l : List α} {v : Value} (h : LsS sz one w G l v) : LsS sz one w' G' l v := by
  obtain ⟨oa, cap, e1, e2, e3⟩ := h
  refine ⟨oa, cap, e1, e2, ?_⟩
  rcases e3 with e3 | ⟨b, o, cs, T, e4, e5, e6, e7⟩
  · exact .inl e3
  · exact .inr ⟨b, o, cs, T, e4, (st.heap b e6.lt e5).2, e6.stay st e5, e7.stay h1 st⟩
theorem LsL.get (h1 : One sz one) {w : World} {G : Nat → Prop} : ∀ {l : List α} {vs : List Value} {i : Nat} {x : α}, LsL sz (one w G) l vs → l[i]? = some x → one w G x ((vs.drop (i * sz)).take sz) ∧ i * sz + sz ≤ vs.length
  | [], _, i, f, _, hf => by simp at hf
  | g :: r, vs, 0, f, h, hf => by
    simp at hf; subst hf
    have := h1.len h.1
    rw [List.length_take] at this
    have hp := h1.pos
    exact ⟨by simpa using h.1, by omega⟩
  | g :: r, vs, i + 1, f, h, hf => by
    obtain ⟨k1, k2⟩ := LsL.get h1 h.2 (by simpa using hf)
    rw [List.drop_drop] at k1
    rw [List.length_drop] at k2
    have e : (i + 1) * sz = sz + i * sz := by rw [Nat.add_mul, Nat.one_mul]; omega
    have := h1.len h.1
    rw [List.length_take] at this
    exact ⟨by rw [e]; exact k1, by omega⟩
theorem LsL.of {w : World} {G : Nat → Prop} : ∀ {l : List α} {vs : List Value}, (∀ i x, l[i]? = some x → one w G x ((vs.drop (i * sz)).take sz)) → LsL sz (one w G) l vs
  | [], _, _ => trivial
  | x :: r, vs, h => ⟨by simpa using h 0 x rfl, LsL.of fun i y hy => by
      have := h (i + 1) y (by simpa using hy)
      have e : (i + 1) * sz = sz + i * sz := by rw [Nat.add_mul, Nat.one_mul]; omega
      rw [List.drop_drop, ← e]
      exact this⟩
theorem LsL.append (h1 : One sz one) {w : World} {G : Nat → Prop} : ∀ {l m : List α} {cs vs : List Value}, LsL sz (one w G) l cs → cs.length = l.length * sz → LsL sz (one w G) m vs → LsL sz (one w G) (l ++ m) (cs ++ vs)
  | [], m, cs, vs, _, h0, hx => by
    have : cs = [] := List.eq_nil_of_length_eq_zero (by simpa using h0)
    subst this
    exact hx
  | y :: r, m, cs, vs, ⟨a, b⟩, h0, hx => by
    simp only [List.length_cons, Nat.add_mul, Nat.one_mul] at h0
    refine ⟨?_, ?_⟩
    · rw [List.take_append_of_le_length (by omega)]; exact a
    · rw [List.drop_append_of_le_length (by omega)]
      exact LsL.append h1 b (by rw [List.length_drop]; omega) hx
theorem LsL.len (h1 : One sz one) {w : World} {G : Nat → Prop} : ∀ {l : List α} {vs : List Value}, LsL sz (one w G) l vs → l.length * sz ≤ vs.length
  | [], vs, _ => by simp
  | x :: r, vs, ⟨a, b⟩ => by
    have a := h1.len a
    have b := LsL.len h1 b
    rw [List.length_take] at a
    rw [List.length_drop] at b
    simp only [List.length_cons, Nat.add_mul, Nat.one_mul]; omega
structure GrI (sz : Nat) (one : Ov α) (E : Nat) (w : World) (base : Nat) (G : Nat → Prop) (acc : List α) (v : Value) : Prop where
  row : ∃ cs, w.ownsRow base E sz v acc.length cs ∧ LsL sz (one w G) acc cs
theorem GrI.nil (E : Nat) (w : World) (base : Nat) (G : Nat → Prop) : GrI sz one E w base G [] (.slice none 0 0) := ⟨[], World.ownsRow_nil _ _ _ _, trivial⟩
theorem GrI.chg (h1 : One sz one) {E : Nat} {w w' : World} {base : Nat} {G : Nat → Prop} {acc : List α} {v : Value} {X : Nat → Prop} (h : GrI sz one E w base G acc v) (c : Chg X w w') (hx : ∀ k, v.ownBlock = some k → ¬ X k) (hG : ∀ k, G k → k < w.heap.size → ¬ X k) : GrI sz one E w' base G acc v := by
  obtain ⟨cs, k1, k2⟩ := h.row
  exact ⟨cs, ownsRow_chg k1 c hx, k2.stay h1 (Stay.of c fun k hk hlt => hG k hk hlt)⟩
theorem GrI.mono (h1 : One sz one) {E : Nat} {w : World} {base : Nat} {G G' : Nat → Prop} {acc : List α} {v : Value} (h : GrI sz one E w base G acc v) (hG : ∀ k, k < w.heap.size → G k → G' k) : GrI sz one E w base G' acc v := by
  obtain ⟨cs, k1, k2⟩ := h.row
  exact ⟨cs, k1, k2.stay h1 (Stay.sub hG)⟩
theorem GrI.lss (h1 : One sz one) {E : Nat} {w : World} {base : Nat} {G : Nat → Prop} {acc : List α} {v : Value} (h : GrI sz one E w base G acc v) : LsS sz one w (fun g => G g ∨ base ≤ g) acc v := by
  obtain ⟨cs, k1, k2⟩ := h.row
  obtain ⟨oa, cap, rfl, hc, hq⟩ := ownsRow_slice k1
  refine ⟨oa, cap, rfl, hc, ?_⟩
  rcases hq with hq | ⟨g, cur, rfl, hb, hblk, htk, _⟩
  · exact .inl (List.eq_nil_of_length_eq_zero hq)
  · refine .inr ⟨g, 0, cur, E, rfl, .inr hb, hblk.r, LsL.of fun i x hx => ?_⟩
    have hi := (List.getElem?_eq_some_iff.1 hx).1
    have q := (k2.get h1 hx).1
    have hle : i * sz + sz ≤ acc.length * sz := by
      have : (i + 1) * sz ≤ acc.length * sz := Nat.mul_le_mul_right _ (by omega)
      rwa [Nat.add_mul, Nat.one_mul] at this
    rw [← htk, List.drop_take, List.take_take, Nat.min_eq_left (by omega)] at q
    exact h1.stay ⟨fun k _ hg => ⟨rfl, .inl hg⟩⟩ q
theorem wl_appLs {ops : Array Oper} {Q : Exit → Act → World → Prop} {a : Act} {w : World} {rest : List Oper} {d : Option Nat} {ty : TypeId} {pos : String} {af : Array Edge} (h1 : One sz one)
    {E t bytes : Nat} (hT : rowB Tryd.prog t E sz bytes = true) (hby : bytes ≤ 4096) {x y : Operand} {base b c : Nat} {G : Nat → Prop} {acc : List α} {x1 : α} {v : Value} {cs : List Value} {T : TypeId} (hx : a.eval x = v) (hI : GrI sz one E w base G acc v) (hy : a.eval y = .slice (some ⟨b, 0, none⟩) 1 c)
    (hb : Blk w b cs T) (hcs : one w G x1 cs) (hlim : acc.length + 1 ≤ 4000000) (hG : ∀ k, G k → v.ownBlock ≠ some k) (hbase : base ≤ w.heap.size)
    (h : ∀ v' w', GrI sz one E w' base G (acc ++ [x1]) v' → Chg (fun k => v.ownBlock = some k) w w' → (v'.ownBlock = v.ownBlock ∨ ∃ k, v'.ownBlock = some k ∧ w.heap.size ≤ k) → WL Tryd.prog ops Q rest (a.put d v') w') :
    WL Tryd.prog ops Q (⟨d, .call { callee := .builtin .append, args := #[x, y], argTypes := #[t, t] }, ty, pos, af, none⟩ :: rest) a w := by
  obtain ⟨xs, q1, q2⟩ := hI.row
  have hl := h1.len hcs
  have hbb : (acc.length + 1) * bytes ≤ 140737488355328 := by
    have := Nat.mul_le_mul hlim hby
    omega
  obtain ⟨v', w', hr, ha⟩ := run_appendRow (P := Tryd.prog) hT h1.pos ty q1 ⟨b, 0, none⟩ 1 c cs (by omega) (fun j u hj => by rw [add_lit, Nat.zero_add, hb.cell]; exact hj) (h1.cell hcs) (by omega) hbb hbase
  refine zaK rfl (v := v') (w' := w') (by simp [execOp, resolve, invoke, builtin, hx, hy, hr]) (h v' w' ⟨xs ++ cs, by rw [List.length_append]; exact ha.own, ?_⟩ ha.chg ha.blk)
  have st : Stay w w' G G := Stay.of ha.chg fun k hk _ e => hG k hk e
  exact LsL.append h1 (q2.stay h1 st) q1.1 ⟨h1.stay st (by rw [List.take_of_length_le (by omega)]; exact hcs), trivial⟩
end
theorem wl_lit0 {ops : Array Oper} {Q : Exit → Act → World → Prop} {a : Act} {w : World} {rest : List Oper} {d : Option Nat} {ty : TypeId} {pos : String} {af : Array Edge} {t e sz : Nat} {z : Value} (ht : Tryd.prog.underlying t = some (.slice e)) (hs : sizeB Tryd.prog e sz = true) (hz : zeroB Tryd.prog e z) (h0 : 0 < sz)
    (h : ∀ w', Chg (fun _ => False) w w' → Blk w' w.heap.size [] e → w'.heap.size = w.heap.size + 1 → WL Tryd.prog ops Q rest (a.put d (.slice (some ⟨w.heap.size, 0, none⟩) 0 0)) w') :
    WL Tryd.prog ops Q (⟨d, .buildSlice t 0 #[], ty, pos, af, none⟩ :: rest) a w := by
  have hr := run_buildSlice (P := Tryd.prog) (w := w) ht hs hz [] (fun v hv => by simp at hv) (by simp) h0
  simp only [List.length_nil, List.zipIdx_nil, List.map_nil, List.flatMap_nil] at hr
  refine zaK rfl (v := .slice (some ⟨w.heap.size, 0, none⟩) 0 0) (w' := w.alloc (.cells #[] e)) (by simp [execOp, hr]) (h _ (Chg.alloc _ _ _) (Blk.new w [] e) ?_)
  show (w.heap.push _).size = _
  rw [Array.size_push]
theorem own_blk0 {w : World} {base b : Nat} (hb : Blk w b [] eB) (hbase : base ≤ b) : Own eB w base (.slice (some ⟨b, 0, none⟩) 0 0) [] :=
  ⟨rfl, .inr ⟨b, 0, #[], rfl, hbase, hb, Nat.le_refl _, by unfold maxLen; omega, rfl, rfl⟩⟩
theorem chg_own {w w' : World} (h : Chg (fun k => w.heap.size ≤ k) w w') : Chg (fun _ => False) w w' := h.mono fun _ hn hk => by omega
structure Oct where
  null : Bool
  data : Bs
structure Hd where
  key : Bs
  val : Oct
structure Rc where
  len : Int
  attr : Int
  delta : Int
  off : Int
  key : Oct
  val : Oct
  hs : List Hd
def octO (x : Oct) : Option Bs := if x.null then none else some x.data
def OctC : Ov Oct := fun w G x vs => ∃ oa cap, vs = [.bool x.null, .slice oa x.data.length cap] ∧ x.data.length ≤ cap ∧ zam w G oa x.data
def HdC : Ov Hd := fun w G h vs => ∃ vo, vs = .string ⟨h.key.toArray⟩ :: vo ∧ OctC w G h.val vo
def RcR (r : Rc) : Prop := (-2147483648 ≤ r.len ∧ r.len < 2147483648) ∧ (-128 ≤ r.attr ∧ r.attr < 128) ∧ (-9223372036854775808 ≤ r.delta ∧ r.delta < 9223372036854775808) ∧ (-2147483648 ≤ r.off ∧ r.off < 2147483648)
def RcC : Ov Rc := fun w G r vs => ∃ k1 k2 v1 v2 vh, vs = [.int .i32 r.len, .int .i8 r.attr, .int .i64 r.delta, .int .i32 r.off, .bool r.key.null, .slice k1 r.key.data.length k2, .bool r.val.null, .slice v1 r.val.data.length v2, vh] ∧
  (r.key.data.length ≤ k2 ∧ zam w G k1 r.key.data) ∧ (r.val.data.length ≤ v2 ∧ zam w G v1 r.val.data) ∧ LsS 3 HdC w G r.hs vh ∧ RcR r
theorem one_oct : One 2 OctC := ⟨by decide, fun ⟨_, _, h, _⟩ => by rw [h]; rfl, fun st ⟨oa, cap, h1, h2, h3⟩ => ⟨oa, cap, h1, h2, h3.stay st⟩, fun ⟨_, _, h, _⟩ u hu => by
  rw [h] at hu
  simp only [List.mem_cons, List.not_mem_nil, or_false] at hu
  rcases hu with rfl | rfl <;> rfl⟩
theorem one_hd : One 3 HdC := ⟨by decide, fun ⟨vo, h, h2⟩ => by rw [h]; simp [one_oct.len h2], fun st ⟨vo, h1, h2⟩ => ⟨vo, h1, one_oct.stay st h2⟩, fun ⟨vo, h, h2⟩ u hu => by
  rw [h] at hu
  rcases List.mem_cons.1 hu with rfl | hu
  · rfl
  · exact one_oct.cell h2 u hu⟩
theorem LsS.sl {α : Type} {sz : Nat} {one : Ov α} {w : World} {G : Nat → Prop} {l : List α} {v : Value} (h : LsS sz one w G l v) : ∃ oa cap, v = .slice oa l.length cap ∧ l.length ≤ cap := by
  obtain ⟨oa, cap, h1, h2, _⟩ := h; exact ⟨oa, cap, h1, h2⟩
theorem one_rc : One 9 RcC := ⟨by decide, fun ⟨_, _, _, _, _, h, _⟩ => by rw [h]; rfl, fun st ⟨k1, k2, v1, v2, vh, h, ⟨h1, h2⟩, ⟨h3, h4⟩, h5, h6⟩ => ⟨k1, k2, v1, v2, vh, h, ⟨h1, h2.stay st⟩, ⟨h3, h4.stay st⟩, h5.stay one_hd st, h6⟩, fun ⟨k1, k2, v1, v2, vh, h, _, _, h5, _⟩ u hu => by
  rw [h] at hu
  obtain ⟨oa, cap, rfl, _⟩ := h5.sl
  simp only [List.mem_cons, List.not_mem_nil, or_false] at hu
  rcases hu with rfl | rfl | rfl | rfl | rfl | rfl | rfl | rfl | rfl <;> rfl⟩
theorem ofO : fOff Tryd.prog 31 0 = 0 ∧ fOff Tryd.prog 31 1 = 1 ∧ fOff Tryd.prog 55 0 = 0 ∧ fOff Tryd.prog 55 1 = 1 ∧ eSz Tryd.prog 32 = 3 ∧ eSz Tryd.prog 27 = 9 :=
  ⟨by kernel_rfl, by kernel_rfl, by kernel_rfl, by kernel_rfl, by kernel_rfl, by kernel_rfl⟩
theorem ofR : fOff Tryd.prog 34 0 = 0 ∧ fOff Tryd.prog 34 1 = 1 ∧ fOff Tryd.prog 34 2 = 2 ∧ fOff Tryd.prog 34 3 = 3 ∧ fOff Tryd.prog 34 4 = 4 ∧ fOff Tryd.prog 34 5 = 6 ∧ fOff Tryd.prog 34 6 = 8 :=
  ⟨by kernel_rfl, by kernel_rfl, by kernel_rfl, by kernel_rfl, by kernel_rfl, by kernel_rfl, by kernel_rfl⟩
def SomeB (w : World) (v : Value) (w' : World) : Prop := (∃ b, v = .bool b) ∧ Chg (fun _ => False) w w'
theorem fits8_c {w : World} {G : Nat → Prop} {x : Oct} {vs : List Value} (h : OctC w G x vs) : zan Tryd.prog 26 #[zax vs] w (SomeB w) := by
  obtain ⟨oa, cap, rfl, _, _⟩ := h
  refine zaj Tryd.func26 rfl rfl Tryd.ntmps26 (by simp) ?_
  intro a hN hD hargs
  have h0 : get a 0 = zax [.bool x.null, .slice oa x.data.length cap] := hargs 0 _ rfl
  refine wp_seq_k fun K hK => ?_; refine zac ?_
  refine zaQ (l := [.bool x.null, .slice oa x.data.length cap]) (by simp [evb, kb, hN, h0, sdb]) fun w1 hc1 hb1 hs1 => ?_
  (repeat ((with_reducible refine zah ?_ ?_ ?_); (· simp [evb, pvb, rnb, kb, hN, dyb, sdb] <;> omega); (· kernel_rfl); try simp only [evb, pvb, rnb, kb, hN, seval])); refine zaa ?_; refine hK _ _ ?_; clear hK K
  have l1 := hb1.ld (i := 1) rfl
  refine wp_seq_k fun K hK => ?_; refine wp_seq_k fun K1 hK1 => ?_; refine zac ?_; (repeat ((with_reducible refine zah ?_ ?_ ?_); (· simp [evb, pvb, rnb, kb, hN, l1, ofO, dyb, sdb] <;> omega); (· kernel_rfl); try simp only [evb, pvb, rnb, kb, hN, seval, l1, ofO])); refine zaa ?_; refine hK1 _ _ ?_; try clear hK1 K1
  rcases Bool.eq_false_or_eq_true (decide ((2147483647 : Int) < (x.data.length : Int))) with e | e
  · refine wp_cond_true (by simp [evb, kb, hN, e, sdb]) ?_
    refine wp_seq_k fun K hK => ?_; refine zac ?_; (repeat ((with_reducible refine zah ?_ ?_ ?_); (· simp [evb, pvb, rnb, kb, hN, dyb, sdb] <;> omega); (· kernel_rfl); try simp only [evb, pvb, rnb, kb, hN, seval])); refine zaa ?_; refine hK _ _ ?_; clear hK K; refine wp_ret ⟨by simp [zab, hD], ?_⟩; simp only [evb, kb, hN, seval]
    exact ⟨⟨_, rfl⟩, hc1⟩
  · refine wp_cond_false (by simp [evb, kb, hN, e, sdb]) ?_
    refine wp_skip (hK _ _ ?_)
    clear hK K
    refine wp_seq_k fun K hK => ?_; refine zac ?_; (repeat ((with_reducible refine zah ?_ ?_ ?_); (· simp [evb, pvb, rnb, kb, hN, dyb, sdb] <;> omega); (· kernel_rfl); try simp only [evb, pvb, rnb, kb, hN, seval])); refine zaa ?_; refine hK _ _ ?_; clear hK K; refine wp_ret ⟨by simp [zab, hD], ?_⟩; simp only [evb, kb, hN, seval]
    exact ⟨⟨_, rfl⟩, hc1⟩
theorem fits7_c {w : World} {G : Nat → Prop} {x : Hd} {vs : List Value} (h : HdC w G x vs) : zan Tryd.prog 42 #[zax vs] w (SomeB w) := by
  obtain ⟨vo, rfl, oa, cap, rfl, h2, h3⟩ := h
  refine zaj Tryd.func42 rfl rfl Tryd.ntmps42 (by simp) ?_
  intro a hN hD hargs
  have h0 : get a 0 = zax [.string ⟨x.key.toArray⟩, .bool x.val.null, .slice oa x.val.data.length cap] := hargs 0 _ rfl
  refine wp_seq_k fun K hK => ?_; refine zac ?_
  refine zaQ (l := [.string ⟨x.key.toArray⟩, .bool x.val.null, .slice oa x.val.data.length cap]) (by simp [evb, kb, hN, h0, sdb]) fun w1 hc1 hb1 hs1 => ?_
  (repeat ((with_reducible refine zah ?_ ?_ ?_); (· simp [evb, pvb, rnb, kb, hN, dyb, sdb] <;> omega); (· kernel_rfl); try simp only [evb, pvb, rnb, kb, hN, seval])); refine zaa ?_; refine hK _ _ ?_; clear hK K
  have l0 := hb1.ld (i := 0) rfl
  have hsz : (⟨x.key.toArray⟩ : ByteArray).size = x.key.length := by simp [ByteArray.size]
  refine wp_seq_k fun K hK => ?_; refine wp_seq_k fun K1 hK1 => ?_; refine zac ?_; (repeat ((with_reducible refine zah ?_ ?_ ?_); (· simp [evb, pvb, rnb, kb, hN, l0, ofO, dyb, sdb] <;> omega); (· kernel_rfl); try simp only [evb, pvb, rnb, kb, hN, seval, l0, ofO]))
  (repeat (first | ((with_reducible refine zav ?_ ?_ ?_ ?_); (· exact rfl); (· simp [evb, kb, hN, hsz, dyb, sdb] <;> omega); (· kernel_rfl); try simp only [evb, kb, hN, seval, pvb, hsz]) | ((with_reducible refine zag ?_ ?_ ?_); rotate_left 1; (· simp [evb, kb, hN, hsz, sdb]); rotate_left 1; (· kernel_rfl); try simp only [evb, kb, hN, seval, pvb, hsz])))
  refine zaa ?_; refine hK1 _ _ ?_; try clear hK1 K1
  rcases Bool.eq_false_or_eq_true (decide ((2147483647 : Int) < (x.key.length : Int))) with e | e
  · refine wp_cond_true (by simp [evb, kb, hN, e, sdb]) ?_
    refine wp_seq_k fun K hK => ?_; refine zac ?_; (repeat ((with_reducible refine zah ?_ ?_ ?_); (· simp [evb, pvb, rnb, kb, hN, dyb, sdb] <;> omega); (· kernel_rfl); try simp only [evb, pvb, rnb, kb, hN, seval])); refine zaa ?_; refine hK _ _ ?_; clear hK K; refine wp_ret ⟨by simp [zab, hD], ?_⟩; simp only [evb, kb, hN, seval]
    exact ⟨⟨_, rfl⟩, hc1⟩
  refine wp_cond_false (by simp [evb, kb, hN, e, sdb]) ?_
  refine wp_skip (hK _ _ ?_)
  clear hK K
  refine wp_seq_k fun K hK => ?_; refine wp_seq_k fun K1 hK1 => ?_; refine zac ?_; (repeat ((with_reducible refine zah ?_ ?_ ?_); (· simp [evb, pvb, rnb, kb, hN, ofO, dyb, sdb] <;> omega); (· kernel_rfl); try simp only [evb, pvb, rnb, kb, hN, seval, ofO]))
  refine zay (b := w.heap.size) (o := 1) (n := 2) (by kernel_rfl) (by kernel_rfl) (by simp only [evb, pvb, rnb, kb, hN, seval]) hb1 (by simp) ?_
  rw [show (([.string ⟨x.key.toArray⟩, .bool x.val.null, .slice oa x.val.data.length cap] : List Value).drop 1).take 2 = [.bool x.val.null, .slice oa x.val.data.length cap] from rfl]
  refine zak (fun args w => Tryd.call26 args w) (by simp only [List.map_toArray, List.map_cons, List.map_nil, evb, kb, hN, seval]; exact fits8_c (x := x.val) ⟨oa, cap, rfl, h2, h3.chg hc1 fun _ _ _ h => h⟩) ?_
  rintro _ w2 ⟨⟨b, rfl⟩, hc2⟩
  (repeat ((with_reducible refine zah ?_ ?_ ?_); (· simp [evb, pvb, rnb, kb, hN, dyb, sdb] <;> omega); (· kernel_rfl); try simp only [evb, pvb, rnb, kb, hN, seval])); refine zaa ?_; refine hK1 _ _ ?_; try clear hK1 K1
  have hc02 := hc1.trans hc2 fun _ _ h => h
  cases b with
  | false =>
    refine wp_cond_true (by simp [evb, kb, hN, sdb]) ?_
    refine wp_seq_k fun K hK => ?_; refine zac ?_; (repeat ((with_reducible refine zah ?_ ?_ ?_); (· simp [evb, pvb, rnb, kb, hN, dyb, sdb] <;> omega); (· kernel_rfl); try simp only [evb, pvb, rnb, kb, hN, seval])); refine zaa ?_; refine hK _ _ ?_; clear hK K; refine wp_ret ⟨by simp [zab, hD], ?_⟩; simp only [evb, kb, hN, seval]
    exact ⟨⟨_, rfl⟩, hc02⟩
  | true =>
    refine wp_cond_false (by simp [evb, kb, hN, sdb]) ?_
    refine wp_skip (hK _ _ ?_)
    clear hK K
    refine wp_seq_k fun K hK => ?_; refine zac ?_; (repeat ((with_reducible refine zah ?_ ?_ ?_); (· simp [evb, pvb, rnb, kb, hN, dyb, sdb] <;> omega); (· kernel_rfl); try simp only [evb, pvb, rnb, kb, hN, seval])); refine zaa ?_; refine hK _ _ ?_; clear hK K; refine wp_ret ⟨by simp [zab, hD], ?_⟩; simp only [evb, kb, hN, seval]
    exact ⟨⟨_, rfl⟩, hc02⟩
end Go.Proofs.YtojpodeljpfgaaaDoor
namespace Go.Proofs.YtojpodeljpfgaaaDoor
set_option linter.all false
open Go.RowKit
set_option maxRecDepth 10000
set_option maxHeartbeats 2000000
theorem fits10_c {w : World} {G : Nat → Prop} {l : List Hd} {v : Value} (hl : LsS 3 HdC w G l v) (hn : l.length ≤ 4611686018427387904) : zan Tryd.prog 27 #[v] w (SomeB w) := by
  obtain ⟨oa, cap, rfl, hcap, hrow⟩ := hl
  refine zaj Tryd.func27 rfl rfl Tryd.ntmps27 (by simp) ?_
  intro a hN hD hargs
  have h0 : get a 0 = .slice oa l.length cap := hargs 0 _ rfl
  refine wp_seq_k fun K hK => ?_; refine zac ?_; (repeat ((with_reducible refine zah ?_ ?_ ?_); (· simp [evb, pvb, rnb, kb, hN, dyb, sdb] <;> omega); (· kernel_rfl); try simp only [evb, pvb, rnb, kb, hN, seval])); refine zaa ?_; refine hK _ _ ?_; clear hK K
  refine wp_seq_k fun K hK => ?_; refine wp_seq_k fun K1 hK1 => ?_; refine zac ?_; (repeat ((with_reducible refine zah ?_ ?_ ?_); (· simp [evb, pvb, rnb, kb, hN, h0, dyb, sdb] <;> omega); (· kernel_rfl); try simp only [evb, pvb, rnb, kb, hN, seval, h0]))
  refine zaa ?_; refine hK1 _ _ ?_; try clear hK1 K1
  rcases Bool.eq_false_or_eq_true (decide ((2147483647 : Int) < (l.length : Int))) with e | e
  · refine wp_cond_true (by simp [evb, kb, hN, e, sdb]) ?_
    refine wp_seq_k fun K hK => ?_; refine zac ?_; (repeat ((with_reducible refine zah ?_ ?_ ?_); (· simp [evb, pvb, rnb, kb, hN, dyb, sdb] <;> omega); (· kernel_rfl); try simp only [evb, pvb, rnb, kb, hN, seval])); refine zaa ?_; refine hK _ _ ?_; clear hK K; refine wp_ret ⟨by simp [zab, hD], ?_⟩; simp only [evb, kb, hN, seval]
    exact ⟨⟨_, rfl⟩, Chg.refl _ _⟩
  refine wp_cond_false (by simp [evb, kb, hN, e, sdb]) ?_
  refine wp_skip (hK _ _ ?_)
  clear hK K
  refine wp_seq_k fun K hK => ?_; refine wp_seq_k fun K1 hK1 => ?_; refine zac ?_; (repeat ((with_reducible refine zah ?_ ?_ ?_); (· simp [evb, pvb, rnb, kb, hN, h0, dyb, sdb] <;> omega); (· kernel_rfl); try simp only [evb, pvb, rnb, kb, hN, seval, h0])); refine zaa ?_; refine hK1 _ _ ?_; try clear hK1 K1
  refine wp_range (n := l.length) (fun i a' w' => a'.tmps.size = 18 ∧ a'.defers = [] ∧ get a' 8 = .slice oa l.length cap ∧ Chg (fun _ => False) w w') 18 hn
    (by simp only [evb, kb, hN, seval]; try rfl) (by simp only [evb, kb, hN, seval]) ⟨by simp only [evb, kb, hN, seval], by simp [zab, hD], by simp only [evb, kb, hN, seval], Chg.refl _ _⟩ ?_ ?_ (by decide) ?_ ?_
  · rintro i a w ⟨h, _⟩; exact h
  · rintro i a w t v ht ⟨k1, k2, k3, k4⟩
    rcases ht with rfl | rfl | rfl <;> exact ⟨by rw [zaf]; exact k1, by rw [zab]; exact k2, by rw [zaq (by decide)]; exact k3, k4⟩
  · clear hN hD
    rintro i a1 w1 hi ⟨hN, hD, g8, hc1⟩ g9 g10
    have hx : l[i]? = some l[i] := by simp [hi]
    generalize l[i] = x at hx
    rcases hrow with rfl | ⟨b, o, cs, T, rfl, hGb, hb, htl⟩
    · simp at hi
    obtain ⟨hcx, hlx⟩ := htl.get one_hd hx
    have hb1 : Rbk w1 b cs T := hb.chg hc1 (fun h => h)
    rw [List.length_drop] at hlx
    rw [List.drop_drop] at hcx
    have hlen := one_hd.len hcx
    have hcell := one_hd.cell hcx
    refine wp_seq_k fun K3 hK3 => ?_; refine zac ?_
    refine wl_indexAddr (b := b) (o := o) (k := .i64) (i := i) (n := 3) (len := l.length) (cap := cap) (by kernel_rfl) (by simp [evb, kb, hN, g8, sdb]) (by simp [evb, kb, hN, g10, sdb]) hi ?_
    refine wl_loadAgg_r (b := b) (o := o + i * 3) (n := 3) (by kernel_rfl) (by kernel_rfl) (by simp [evb, kb, hN, sdb]) hb1 (by omega) ?_
    generalize (cs.drop (o + i * 3)).take 3 = vx at hcx hlen hcell
    refine zaH (z := zax [.string ⟨#[]⟩, .bool false, .slice none 0 0]) (fun w => Tryd.zeroValue55 w) fun w3 hc3 hb3 hs3 => ?_
    refine zaA (b := w1.heap.size) (n := 3) (l' := vx) (by kernel_rfl) (by simp [evb, kb, hN, sdb]) (by simp [evb, kb, hN, sdb]; rfl) hb3 hlen hcell rfl fun w4 hb4 hc4 => ?_
    refine zaa ?_; refine hK3 _ _ ?_; try clear hK3 K3
    have hc14 : Chg (fun _ => False) w1 w4 := hc3.trans hc4 fun n hn h => by omega
    have hc04 := hc1.trans hc14 fun _ _ h => h
    refine wp_seq_k fun K3 hK3 => ?_; refine zac ?_
    refine zay (b := w1.heap.size) (o := 0) (n := 3) (by kernel_rfl) (by kernel_rfl) (by simp [evb, kb, hN, sdb]) hb4 (by omega) ?_
    rw [List.drop_zero, List.take_of_length_le (by omega)]
    refine zak (fun args w => Tryd.call42 args w) (by simp only [List.map_toArray, List.map_cons, List.map_nil, evb, kb, hN, seval]; exact fits7_c (w := w4) (one_hd.stay (Stay.of hc04 fun _ _ _ h => h) hcx)) ?_
    rintro _ w5 ⟨⟨b5, rfl⟩, hc5⟩
    have hc05 := hc04.trans hc5 fun _ _ h => h
    (repeat ((with_reducible refine zah ?_ ?_ ?_); (· simp [evb, pvb, rnb, kb, hN, dyb, sdb] <;> omega); (· kernel_rfl); try simp only [evb, pvb, rnb, kb, hN, seval]))
    refine zaa ?_; refine hK3 _ _ ?_; try clear hK3 K3
    cases b5 with
    | true =>
      refine wp_cond_false (by simp [evb, kb, hN, sdb]) ?_
      refine wp_skip ⟨⟨by simp only [zaf, hN], by simp only [zab, hD], by simp only [evb, kb, hN, seval, g8], hc05⟩, by simp only [evb, kb, hN, seval, g9], by simp only [evb, kb, hN, seval, g10]⟩
    | false =>
      refine wp_cond_true (by simp [evb, kb, hN, sdb]) ?_
      refine wp_seq_k fun K3 hK3 => ?_; refine zac ?_; (repeat ((with_reducible refine zah ?_ ?_ ?_); (· simp [evb, pvb, rnb, kb, hN, dyb, sdb] <;> omega); (· kernel_rfl); try simp only [evb, pvb, rnb, kb, hN, seval])); refine zaa ?_; refine hK3 _ _ ?_; try clear hK3 K3; refine wp_ret ⟨by simp [zab, hD], ?_⟩; simp only [evb, kb, hN, seval]
      exact ⟨⟨_, rfl⟩, hc05⟩
  · clear hN hD
    rintro a1 w1 ⟨hN, hD, g8, hc1⟩
    refine hK _ _ ?_
    clear hK K
    refine wp_seq_k fun K hK => ?_; refine zac ?_; (repeat ((with_reducible refine zah ?_ ?_ ?_); (· simp [evb, pvb, rnb, kb, hN, dyb, sdb] <;> omega); (· kernel_rfl); try simp only [evb, pvb, rnb, kb, hN, seval])); refine zaa ?_; refine hK _ _ ?_; clear hK K; refine wp_ret ⟨by simp [zab, hD], ?_⟩; simp only [evb, kb, hN, seval]
    exact ⟨⟨_, rfl⟩, hc1⟩
theorem fits9_c {w : World} {G : Nat → Prop} {x : Rc} {vs : List Value} (h : RcC w G x vs) (hn : x.hs.length ≤ 4611686018427387904) : zan Tryd.prog 15 #[zax vs] w (SomeB w) := by
  have hcell := one_rc.cell h
  obtain ⟨k1, k2, v1, v2, vh, rfl, ⟨p1, p2⟩, ⟨p3, p4⟩, p5, p6⟩ := h
  refine zaj Tryd.func15 rfl rfl Tryd.ntmps15 (by simp) ?_
  intro a hN hD hargs
  obtain ⟨vs, hvs⟩ : ∃ vs, vs = [.int .i32 x.len, .int .i8 x.attr, .int .i64 x.delta, .int .i32 x.off, .bool x.key.null, .slice k1 x.key.data.length k2, .bool x.val.null, .slice v1 x.val.data.length v2, vh] := ⟨_, rfl⟩
  have h0 : get a 0 = zax vs := by rw [hvs]; exact hargs 0 _ rfl
  refine wp_seq_k fun K hK => ?_; refine zac ?_
  refine zaQ (l := vs) (by simp [evb, kb, hN, h0, sdb]) fun w1 hc1 hb1 hs1 => ?_
  (repeat ((with_reducible refine zah ?_ ?_ ?_); (· simp [evb, pvb, rnb, kb, hN, dyb, sdb] <;> omega); (· kernel_rfl); try simp only [evb, pvb, rnb, kb, hN, seval])); refine zaa ?_; refine hK _ _ ?_; clear hK K
  refine wp_seq_k fun K hK => ?_; refine wp_seq_k fun K1 hK1 => ?_; refine zac ?_; (repeat ((with_reducible refine zah ?_ ?_ ?_); (· simp [evb, pvb, rnb, kb, hN, ofR, dyb, sdb] <;> omega); (· kernel_rfl); try simp only [evb, pvb, rnb, kb, hN, seval, ofR]))
  refine zay (b := w.heap.size) (o := 4) (n := 2) (by kernel_rfl) (by kernel_rfl) (by simp only [evb, pvb, rnb, kb, hN, seval]) hb1 (by rw [hvs]; simp) ?_
  rw [show (vs.drop 4).take 2 = [.bool x.key.null, .slice k1 x.key.data.length k2] by rw [hvs]; rfl]
  refine zak (fun args w => Tryd.call26 args w) (by simp only [List.map_toArray, List.map_cons, List.map_nil, evb, kb, hN, seval]; exact fits8_c (x := x.key) ⟨k1, k2, rfl, p1, p2.chg hc1 fun _ _ _ h => h⟩) ?_
  rintro _ w2 ⟨⟨b, rfl⟩, hc2⟩
  (repeat ((with_reducible refine zah ?_ ?_ ?_); (· simp [evb, pvb, rnb, kb, hN, dyb, sdb] <;> omega); (· kernel_rfl); try simp only [evb, pvb, rnb, kb, hN, seval])); refine zaa ?_; refine hK1 _ _ ?_; try clear hK1 K1
  have hc02 := hc1.trans hc2 fun _ _ h => h
  cases b with
  | false =>
    refine wp_cond_true (by simp [evb, kb, hN, sdb]) ?_
    refine wp_seq_k fun K hK => ?_; refine zac ?_; (repeat ((with_reducible refine zah ?_ ?_ ?_); (· simp [evb, pvb, rnb, kb, hN, dyb, sdb] <;> omega); (· kernel_rfl); try simp only [evb, pvb, rnb, kb, hN, seval])); refine zaa ?_; refine hK _ _ ?_; clear hK K; refine wp_ret ⟨by simp [zab, hD], ?_⟩; simp only [evb, kb, hN, seval]
    exact ⟨⟨_, rfl⟩, hc02⟩
  | true =>
  refine wp_cond_false (by simp [evb, kb, hN, sdb]) ?_
  refine wp_skip (hK _ _ ?_)
  clear hK K
  have hb2 := hb1.chg hc2 fun h => h
  refine wp_seq_k fun K hK => ?_; refine wp_seq_k fun K1 hK1 => ?_; refine zac ?_; (repeat ((with_reducible refine zah ?_ ?_ ?_); (· simp [evb, pvb, rnb, kb, hN, ofR, dyb, sdb] <;> omega); (· kernel_rfl); try simp only [evb, pvb, rnb, kb, hN, seval, ofR]))
  refine zay (b := w.heap.size) (o := 6) (n := 2) (by kernel_rfl) (by kernel_rfl) (by simp only [evb, pvb, rnb, kb, hN, seval]) hb2 (by rw [hvs]; simp) ?_
  rw [show (vs.drop 6).take 2 = [.bool x.val.null, .slice v1 x.val.data.length v2] by rw [hvs]; rfl]
  refine zak (fun args w => Tryd.call26 args w) (by simp only [List.map_toArray, List.map_cons, List.map_nil, evb, kb, hN, seval]; exact fits8_c (x := x.val) ⟨v1, v2, rfl, p3, p4.chg hc02 fun _ _ _ h => h⟩) ?_
  rintro _ w3 ⟨⟨b, rfl⟩, hc3⟩
  (repeat ((with_reducible refine zah ?_ ?_ ?_); (· simp [evb, pvb, rnb, kb, hN, dyb, sdb] <;> omega); (· kernel_rfl); try simp only [evb, pvb, rnb, kb, hN, seval])); refine zaa ?_; refine hK1 _ _ ?_; try clear hK1 K1
  have hc03 := hc02.trans hc3 fun _ _ h => h
  cases b with
  | false =>
    refine wp_cond_true (by simp [evb, kb, hN, sdb]) ?_
    refine wp_seq_k fun K hK => ?_; refine zac ?_; (repeat ((with_reducible refine zah ?_ ?_ ?_); (· simp [evb, pvb, rnb, kb, hN, dyb, sdb] <;> omega); (· kernel_rfl); try simp only [evb, pvb, rnb, kb, hN, seval])); refine zaa ?_; refine hK _ _ ?_; clear hK K; refine wp_ret ⟨by simp [zab, hD], ?_⟩; simp only [evb, kb, hN, seval]
    exact ⟨⟨_, rfl⟩, hc03⟩
  | true =>
  refine wp_cond_false (by simp [evb, kb, hN, sdb]) ?_
  refine wp_skip (hK _ _ ?_)
  clear hK K
  have hb3 := hb2.chg hc3 fun h => h
  have l8 := hb3.ld (i := 8) (v := vh) (by rw [hvs]; rfl)
  refine wp_seq_k fun K hK => ?_; refine wp_seq_k fun K1 hK1 => ?_; refine zac ?_; (repeat ((with_reducible refine zah ?_ ?_ ?_); (· simp [evb, pvb, rnb, kb, hN, ofR, l8, dyb, sdb] <;> omega); (· kernel_rfl); try simp only [evb, pvb, rnb, kb, hN, seval, ofR, l8]))
  refine zak (fun args w => Tryd.call27 args w) (by simp only [List.map_toArray, List.map_cons, List.map_nil, evb, kb, hN, seval]; exact fits10_c (p5.stay one_hd (Stay.of hc03 fun _ _ _ h => h)) hn) ?_
  rintro _ w4 ⟨⟨b, rfl⟩, hc4⟩
  (repeat ((with_reducible refine zah ?_ ?_ ?_); (· simp [evb, pvb, rnb, kb, hN, dyb, sdb] <;> omega); (· kernel_rfl); try simp only [evb, pvb, rnb, kb, hN, seval])); refine zaa ?_; refine hK1 _ _ ?_; try clear hK1 K1
  have hc04 := hc03.trans hc4 fun _ _ h => h
  cases b with
  | false =>
    refine wp_cond_true (by simp [evb, kb, hN, sdb]) ?_
    refine wp_seq_k fun K hK => ?_; refine zac ?_; (repeat ((with_reducible refine zah ?_ ?_ ?_); (· simp [evb, pvb, rnb, kb, hN, dyb, sdb] <;> omega); (· kernel_rfl); try simp only [evb, pvb, rnb, kb, hN, seval])); refine zaa ?_; refine hK _ _ ?_; clear hK K; refine wp_ret ⟨by simp [zab, hD], ?_⟩; simp only [evb, kb, hN, seval]
    exact ⟨⟨_, rfl⟩, hc04⟩
  | true =>
  refine wp_cond_false (by simp [evb, kb, hN, sdb]) ?_
  refine wp_skip (hK _ _ ?_)
  clear hK K
  refine wp_seq_k fun K hK => ?_; refine zac ?_; (repeat ((with_reducible refine zah ?_ ?_ ?_); (· simp [evb, pvb, rnb, kb, hN, dyb, sdb] <;> omega); (· kernel_rfl); try simp only [evb, pvb, rnb, kb, hN, seval])); refine zaa ?_; refine hK _ _ ?_; clear hK K; refine wp_ret ⟨by simp [zab, hD], ?_⟩; simp only [evb, kb, hN, seval]
  exact ⟨⟨_, rfl⟩, hc04⟩
theorem fits12_c {w : World} {G : Nat → Prop} {l : List Rc} {v : Value} (hl : LsS 9 RcC w G l v) (hn : l.length ≤ 4611686018427387904) (hh : ∀ x ∈ l, x.hs.length ≤ 4611686018427387904) : zan Tryd.prog 5 #[v] w (SomeB w) := by
  obtain ⟨oa, cap, rfl, hcap, hrow⟩ := hl
  refine zaj Tryd.func5 rfl rfl Tryd.ntmps5 (by simp) ?_
  intro a hN hD hargs
  have h0 : get a 0 = .slice oa l.length cap := hargs 0 _ rfl
  refine wp_seq_k fun K hK => ?_; refine zac ?_; (repeat ((with_reducible refine zah ?_ ?_ ?_); (· simp [evb, pvb, rnb, kb, hN, dyb, sdb] <;> omega); (· kernel_rfl); try simp only [evb, pvb, rnb, kb, hN, seval])); refine zaa ?_; refine hK _ _ ?_; clear hK K
  refine wp_seq_k fun K hK => ?_; refine wp_seq_k fun K1 hK1 => ?_; refine zac ?_; (repeat ((with_reducible refine zah ?_ ?_ ?_); (· simp [evb, pvb, rnb, kb, hN, h0, dyb, sdb] <;> omega); (· kernel_rfl); try simp only [evb, pvb, rnb, kb, hN, seval, h0]))
  refine zaa ?_; refine hK1 _ _ ?_; try clear hK1 K1
  rcases Bool.eq_false_or_eq_true (decide ((2147483647 : Int) < (l.length : Int))) with e | e
  · refine wp_cond_true (by simp [evb, kb, hN, e, sdb]) ?_
    refine wp_seq_k fun K hK => ?_; refine zac ?_; (repeat ((with_reducible refine zah ?_ ?_ ?_); (· simp [evb, pvb, rnb, kb, hN, dyb, sdb] <;> omega); (· kernel_rfl); try simp only [evb, pvb, rnb, kb, hN, seval])); refine zaa ?_; refine hK _ _ ?_; clear hK K; refine wp_ret ⟨by simp [zab, hD], ?_⟩; simp only [evb, kb, hN, seval]
    exact ⟨⟨_, rfl⟩, Chg.refl _ _⟩
  refine wp_cond_false (by simp [evb, kb, hN, e, sdb]) ?_
  refine wp_skip (hK _ _ ?_)
  clear hK K
  refine wp_seq_k fun K hK => ?_; refine wp_seq_k fun K1 hK1 => ?_; refine zac ?_; (repeat ((with_reducible refine zah ?_ ?_ ?_); (· simp [evb, pvb, rnb, kb, hN, h0, dyb, sdb] <;> omega); (· kernel_rfl); try simp only [evb, pvb, rnb, kb, hN, seval, h0])); refine zaa ?_; refine hK1 _ _ ?_; try clear hK1 K1
  refine wp_range (n := l.length) (fun i a' w' => a'.tmps.size = 18 ∧ a'.defers = [] ∧ get a' 8 = .slice oa l.length cap ∧ Chg (fun _ => False) w w') 18 hn
    (by simp only [evb, kb, hN, seval]; try rfl) (by simp only [evb, kb, hN, seval]) ⟨by simp only [evb, kb, hN, seval], by simp [zab, hD], by simp only [evb, kb, hN, seval], Chg.refl _ _⟩ ?_ ?_ (by decide) ?_ ?_
  · rintro i a w ⟨h, _⟩; exact h
  · rintro i a w t v ht ⟨k1, k2, k3, k4⟩
    rcases ht with rfl | rfl | rfl <;> exact ⟨by rw [zaf]; exact k1, by rw [zab]; exact k2, by rw [zaq (by decide)]; exact k3, k4⟩
  · clear hN hD
    rintro i a1 w1 hi ⟨hN, hD, g8, hc1⟩ g9 g10
    have hx : l[i]? = some l[i] := by simp [hi]
    generalize l[i] = x at hx
    rcases hrow with rfl | ⟨b, o, cs, T, rfl, hGb, hb, htl⟩
    · simp at hi
    obtain ⟨hcx, hlx⟩ := htl.get one_rc hx
    have hb1 : Rbk w1 b cs T := hb.chg hc1 (fun h => h)
    rw [List.length_drop] at hlx
    rw [List.drop_drop] at hcx
    have hlen := one_rc.len hcx
    have hcell := one_rc.cell hcx
    refine wp_seq_k fun K3 hK3 => ?_; refine zac ?_
    refine wl_indexAddr (b := b) (o := o) (k := .i64) (i := i) (n := 9) (len := l.length) (cap := cap) (by kernel_rfl) (by simp [evb, kb, hN, g8, sdb]) (by simp [evb, kb, hN, g10, sdb]) hi ?_
    refine wl_loadAgg_r (b := b) (o := o + i * 9) (n := 9) (by kernel_rfl) (by kernel_rfl) (by simp [evb, kb, hN, sdb]) hb1 (by omega) ?_
    generalize (cs.drop (o + i * 9)).take 9 = vx at hcx hlen hcell
    refine zaH (z := zax [.int .i32 0, .int .i8 0, .int .i64 0, .int .i32 0, .bool false, .slice none 0 0, .bool false, .slice none 0 0, .slice none 0 0]) (fun w => Tryd.zeroValue34 w) fun w3 hc3 hb3 hs3 => ?_
    refine zaA (b := w1.heap.size) (n := 9) (l' := vx) (by kernel_rfl) (by simp [evb, kb, hN, sdb]) (by simp [evb, kb, hN, sdb]; rfl) hb3 hlen hcell rfl fun w4 hb4 hc4 => ?_
    refine zaa ?_; refine hK3 _ _ ?_; try clear hK3 K3
    have hc14 : Chg (fun _ => False) w1 w4 := hc3.trans hc4 fun n hn h => by omega
    have hc04 := hc1.trans hc14 fun _ _ h => h
    refine wp_seq_k fun K3 hK3 => ?_; refine zac ?_
    refine zay (b := w1.heap.size) (o := 0) (n := 9) (by kernel_rfl) (by kernel_rfl) (by simp [evb, kb, hN, sdb]) hb4 (by omega) ?_
    rw [List.drop_zero, List.take_of_length_le (by omega)]
    refine zak (fun args w => Tryd.call15 args w) (by simp only [List.map_toArray, List.map_cons, List.map_nil, evb, kb, hN, seval]; exact fits9_c (w := w4) (one_rc.stay (Stay.of hc04 fun _ _ _ h => h) hcx) (hh x (List.mem_of_getElem? hx))) ?_
    rintro _ w5 ⟨⟨b5, rfl⟩, hc5⟩
    have hc05 := hc04.trans hc5 fun _ _ h => h
    (repeat ((with_reducible refine zah ?_ ?_ ?_); (· simp [evb, pvb, rnb, kb, hN, dyb, sdb] <;> omega); (· kernel_rfl); try simp only [evb, pvb, rnb, kb, hN, seval]))
    refine zaa ?_; refine hK3 _ _ ?_; try clear hK3 K3
    cases b5 with
    | true =>
      refine wp_cond_false (by simp [evb, kb, hN, sdb]) ?_
      refine wp_skip ⟨⟨by simp only [zaf, hN], by simp only [zab, hD], by simp only [evb, kb, hN, seval, g8], hc05⟩, by simp only [evb, kb, hN, seval, g9], by simp only [evb, kb, hN, seval, g10]⟩
    | false =>
      refine wp_cond_true (by simp [evb, kb, hN, sdb]) ?_
      refine wp_seq_k fun K3 hK3 => ?_; refine zac ?_; (repeat ((with_reducible refine zah ?_ ?_ ?_); (· simp [evb, pvb, rnb, kb, hN, dyb, sdb] <;> omega); (· kernel_rfl); try simp only [evb, pvb, rnb, kb, hN, seval])); refine zaa ?_; refine hK3 _ _ ?_; try clear hK3 K3; refine wp_ret ⟨by simp [zab, hD], ?_⟩; simp only [evb, kb, hN, seval]
      exact ⟨⟨_, rfl⟩, hc05⟩
  · clear hN hD
    rintro a1 w1 ⟨hN, hD, g8, hc1⟩
    refine hK _ _ ?_
    clear hK K
    refine wp_seq_k fun K hK => ?_; refine zac ?_; (repeat ((with_reducible refine zah ?_ ?_ ?_); (· simp [evb, pvb, rnb, kb, hN, dyb, sdb] <;> omega); (· kernel_rfl); try simp only [evb, pvb, rnb, kb, hN, seval])); refine zaa ?_; refine hK _ _ ?_; clear hK K; refine wp_ret ⟨by simp [zab, hD], ?_⟩; simp only [evb, kb, hN, seval]
    exact ⟨⟨_, rfl⟩, hc1⟩
theorem fits11_c {w : World} {vs : List Value} {oa : Option Addr} {n cap : Nat} (h13 : vs[13]? = some (.slice oa n cap)) : zan Tryd.prog 4 #[zax vs] w (SomeB w) := by
  refine zaj Tryd.func4 rfl rfl Tryd.ntmps4 (by simp) ?_
  intro a hN hD hargs
  have h0 : get a 0 = zax vs := hargs 0 _ rfl
  refine wp_seq_k fun K hK => ?_; refine zac ?_
  refine zaQ (l := vs) (by simp [evb, kb, hN, h0, sdb]) fun w1 hc1 hb1 hs1 => ?_
  (repeat ((with_reducible refine zah ?_ ?_ ?_); (· simp [evb, pvb, rnb, kb, hN, dyb, sdb] <;> omega); (· kernel_rfl); try simp only [evb, pvb, rnb, kb, hN, seval])); refine zaa ?_; refine hK _ _ ?_; clear hK K
  have l13 := hb1.ld h13
  have o13 : fOff Tryd.prog 26 13 = 13 := by kernel_rfl
  refine wp_seq_k fun K hK => ?_; refine wp_seq_k fun K1 hK1 => ?_; refine zac ?_; (repeat ((with_reducible refine zah ?_ ?_ ?_); (· simp [evb, pvb, rnb, kb, hN, l13, o13, dyb, sdb] <;> omega); (· kernel_rfl); try simp only [evb, pvb, rnb, kb, hN, seval, l13, o13])); refine zaa ?_; refine hK1 _ _ ?_; try clear hK1 K1
  rcases Bool.eq_false_or_eq_true (decide ((2147483647 : Int) < (n : Int))) with e | e
  · refine wp_cond_true (by simp [evb, kb, hN, e, sdb]) ?_
    refine wp_seq_k fun K hK => ?_; refine zac ?_; (repeat ((with_reducible refine zah ?_ ?_ ?_); (· simp [evb, pvb, rnb, kb, hN, dyb, sdb] <;> omega); (· kernel_rfl); try simp only [evb, pvb, rnb, kb, hN, seval])); refine zaa ?_; refine hK _ _ ?_; clear hK K; refine wp_ret ⟨by simp [zab, hD], ?_⟩; simp only [evb, kb, hN, seval]
    exact ⟨⟨_, rfl⟩, hc1⟩
  · refine wp_cond_false (by simp [evb, kb, hN, e, sdb]) ?_
    refine wp_skip (hK _ _ ?_)
    clear hK K
    refine wp_seq_k fun K hK => ?_; refine zac ?_; (repeat ((with_reducible refine zah ?_ ?_ ?_); (· simp [evb, pvb, rnb, kb, hN, dyb, sdb] <;> omega); (· kernel_rfl); try simp only [evb, pvb, rnb, kb, hN, seval])); refine zaa ?_; refine hK _ _ ?_; clear hK K; refine wp_ret ⟨by simp [zab, hD], ?_⟩; simp only [evb, kb, hN, seval]
    exact ⟨⟨_, rfl⟩, hc1⟩
theorem own_at {w : World} {base : Nat} {v : Value} {l : Bs} (h : Own eB w base v l) : ∃ oa cap, v = .slice oa l.length cap ∧ l.length ≤ cap ∧ zam w (fun g => base ≤ g) oa l := by
  obtain ⟨oa, cap, h1, h2, h3⟩ := h.bytes
  exact ⟨oa, cap, h1, h2, h3.mono fun g hg _ => (h.lt g hg).1⟩
theorem own_c {w : World} {G : Nat → Prop} {oa : Option Addr} {l : Bs} {cap : Nat} (hb : zam w G oa l) (hl : l.length ≤ LIM) : zan Tryd.prog 19 #[.slice oa l.length cap] w fun v w' => Own eB w' w.heap.size v l ∧ Chg (fun _ => False) w w' := by
  refine zaj Tryd.func19 rfl rfl Tryd.ntmps19 (by simp) ?_
  intro a hN hD hargs
  have h0 : get a 0 = .slice oa l.length cap := hargs 0 _ rfl
  refine wp_seq_k fun K hK => ?_; refine zac ?_; (repeat ((with_reducible refine zah ?_ ?_ ?_); (· simp [evb, pvb, rnb, kb, hN, dyb, sdb] <;> omega); (· kernel_rfl); try simp only [evb, pvb, rnb, kb, hN, seval])); refine zaa ?_; refine hK _ _ ?_; clear hK K
  refine wp_seq_k fun K hK => ?_; refine zac ?_; (repeat ((with_reducible refine zah ?_ ?_ ?_); (· simp [evb, pvb, rnb, kb, hN, h0, dyb, sdb] <;> omega); (· kernel_rfl); try simp only [evb, pvb, rnb, kb, hN, seval, h0]))
  refine wl_append (c := cap) (oa := oa) (v := .slice none 0 0) (bs := []) (base := w.heap.size) bT (by simp only [evb, pvb, rnb, kb, hN, seval]) (by simp only [evb, pvb, rnb, kb, hN, seval]) (Own.nil _ _ _) hb (by simpa using hl) (Nat.le_refl _) ?_
  intro v1 w1 happ
  (repeat ((with_reducible refine zah ?_ ?_ ?_); (· simp [evb, pvb, rnb, kb, hN, dyb, sdb] <;> omega); (· kernel_rfl); try simp only [evb, pvb, rnb, kb, hN, seval])); refine zaa ?_; refine hK _ _ ?_; clear hK K; refine wp_ret ⟨by simp [zab, hD], ?_⟩; simp only [evb, kb, hN, seval]
  have h1 := happ.own
  rw [List.nil_append] at h1
  exact ⟨h1, happ.chg.mono fun n hn hk => by simp [Value.ownBlock] at hk⟩
theorem own_some {w : World} {base : Nat} {v : Value} {l : Bs} {k : Nat} (h : Own eB w base v l) (hk : v.ownBlock = some k) : ∃ cap, v = .slice (some ⟨k, 0, none⟩) l.length cap ∧ l.length ≤ cap ∧ zam w (fun g => base ≤ g) (some ⟨k, 0, none⟩) l := by
  obtain ⟨oa, cap, rfl, h2, h3⟩ := own_at h
  rcases h.2 with ⟨e, _⟩ | ⟨g, cap', cur, e, _⟩
  · rw [e] at hk; simp [Value.ownBlock] at hk
  · rw [e] at hk
    simp [Value.ownBlock] at hk
    subst hk
    simp at e
    obtain ⟨rfl, rfl⟩ := e
    exact ⟨_, rfl, h2, h3⟩
theorem null_c {w : World} {G : Nat → Prop} {x : Oct} {vs : List Value} (h : OctC w G x vs) (hl : x.data.length ≤ LIM) : zan Tryd.prog 17 #[zax vs] w fun v w' => outNB w' (fun g => w.heap.size ≤ g) (octO x) v ∧ Chg (fun _ => False) w w' := by
  obtain ⟨oa, cap, rfl, h2, h3⟩ := h
  refine zaj Tryd.func17 rfl rfl Tryd.ntmps17 (by simp) ?_
  intro a hN hD hargs
  have h0 : get a 0 = zax [.bool x.null, .slice oa x.data.length cap] := hargs 0 _ rfl
  refine wp_seq_k fun K hK => ?_; refine zac ?_
  refine zaQ (l := [.bool x.null, .slice oa x.data.length cap]) (by simp [evb, kb, hN, h0, sdb]) fun w1 hc1 hb1 hs1 => ?_
  (repeat ((with_reducible refine zah ?_ ?_ ?_); (· simp [evb, pvb, rnb, kb, hN, dyb, sdb] <;> omega); (· kernel_rfl); try simp only [evb, pvb, rnb, kb, hN, seval])); refine zaa ?_; refine hK _ _ ?_; clear hK K
  have l0 := hb1.ld (i := 0) rfl
  refine wp_seq_k fun K hK => ?_; refine wp_seq_k fun K1 hK1 => ?_; refine zac ?_; (repeat ((with_reducible refine zah ?_ ?_ ?_); (· simp [evb, pvb, rnb, kb, hN, l0, ofO, dyb, sdb] <;> omega); (· kernel_rfl); try simp only [evb, pvb, rnb, kb, hN, seval, l0, ofO])); refine zaa ?_; refine hK1 _ _ ?_; try clear hK1 K1
  cases hx : x.null with
  | true =>
    refine wp_cond_true (by simp [evb, kb, hN, hx, sdb]) ?_
    refine wp_seq_k fun K hK => ?_; refine zac ?_; (repeat ((with_reducible refine zah ?_ ?_ ?_); (· simp [evb, pvb, rnb, kb, hN, dyb, sdb] <;> omega); (· kernel_rfl); try simp only [evb, pvb, rnb, kb, hN, seval])); refine zaa ?_; refine hK _ _ ?_; clear hK K; refine wp_ret ⟨by simp [zab, hD], ?_⟩; simp only [evb, kb, hN, seval]
    refine ⟨?_, hc1⟩
    unfold octO; rw [hx]; rfl
  | false =>
    refine wp_cond_false (by simp [evb, kb, hN, hx, sdb]) ?_
    refine wp_skip (hK _ _ ?_)
    clear hK K
    refine wp_seq_k fun K hK => ?_; refine zac ?_
    refine wl_lit0 (e := eB) (sz := 1) (z := .int .u8 0) bT.ht (by kernel_rfl) (fun w => Tryd.zeroValue5 w) (by decide) fun w2 hc2 hb2 hs2 => ?_
    have hc02 := hc1.trans hc2 fun _ _ h => h
    have hb12 := hb1.chg hc2 fun h => h
    have l1 := hb12.ld (i := 1) rfl
    (repeat ((with_reducible refine zah ?_ ?_ ?_); (· simp [evb, pvb, rnb, kb, hN, l1, ofO, dyb, sdb] <;> omega); (· kernel_rfl); try simp only [evb, pvb, rnb, kb, hN, seval, l1, ofO]))
    refine wl_append (c := cap) (oa := oa) (v := .slice (some ⟨w1.heap.size, 0, none⟩) 0 0) (bs := []) (base := w1.heap.size) bT (by simp only [evb, pvb, rnb, kb, hN, seval]) (by simp only [evb, pvb, rnb, kb, hN, seval]) (own_blk0 hb2 (Nat.le_refl _)) (h3.chg hc02 fun _ _ _ h => h) (by simpa using hl) (by omega) ?_
    intro v3 w3 happ
    (repeat ((with_reducible refine zah ?_ ?_ ?_); (· simp [evb, pvb, rnb, kb, hN, dyb, sdb] <;> omega); (· kernel_rfl); try simp only [evb, pvb, rnb, kb, hN, seval])); refine zaa ?_; refine hK _ _ ?_; clear hK K; refine wp_ret ⟨by simp [zab, hD], ?_⟩; simp only [evb, kb, hN, seval]
    have hcw : Chg (fun _ => False) w w3 := hc02.trans happ.chg fun n hn hk => by simp [Value.ownBlock] at hk; have := hc1.size; omega
    refine ⟨?_, hcw⟩
    have h4 := happ.own
    rw [List.nil_append] at h4
    obtain ⟨k, hk⟩ : ∃ k, v3.ownBlock = some k := by
      rcases happ.blk with h | ⟨k, h, _⟩
      · exact ⟨_, h⟩
      · exact ⟨k, h⟩
    obtain ⟨c3, rfl, q1, q2⟩ := own_some h4 hk
    unfold octO; rw [hx]
    exact ⟨_, c3, rfl, q1, q2.mono fun g hg _ => by have := hc1.size; omega⟩
def zaP (o : Option Bs) : Oct := match o with
  | none => ⟨true, []⟩
  | some l => ⟨false, l⟩
theorem octets_c {w : World} {G : Nat → Prop} {o : Option Bs} {v : Value} (h : outNB w G o v) (hl : (zaP o).data.length ≤ LIM) : zan Tryd.prog 23 #[v] w fun r w' => ∃ vs, r = zax vs ∧ OctC w' (fun g => w.heap.size ≤ g) (zaP o) vs ∧ Chg (fun _ => False) w w' := by
  refine callsR_ofC Tryd.func23 rfl rfl (by kernel_rfl) Tryd.ntmps23 (by simp) ?_
  intro a hN hD hargs
  have h0 : get a 0 = v := hargs 0 _ rfl
  refine wp_seq_k fun K hK => ?_; refine zac ?_
  refine zaH (z := zax [.bool false, .slice none 0 0]) (fun w => Tryd.zeroValue31 w) fun w1 hc1 hb1 hs1 => ?_
  refine zaa ?_; refine hK _ _ ?_; clear hK K
  cases o with
  | none =>
    obtain rfl : v = .slice none 0 0 := h
    refine wp_seq_k fun K hK => ?_; refine wp_seq_k fun K0 hK0 => ?_; refine zac ?_; (repeat ((with_reducible refine zah ?_ ?_ ?_); (· simp [evb, pvb, rnb, kb, hN, h0, dyb, sdb] <;> omega); (· kernel_rfl); try simp only [evb, pvb, rnb, kb, hN, seval, h0]))
    refine wl_eqlNilS (by kernel_rfl) (by simp [evb, kb, hN, sdb]) ?_
    simp only [evb, kb, hN, seval]
    refine zaa ?_; refine hK0 _ _ ?_; try clear hK0 K0
    refine wp_cond_true (by simp [evb, kb, hN, isNilS, sdb]) ?_
    refine wp_seq_k fun K hK => ?_; refine zac ?_
    refine wl_build (l := [.bool true, .slice none 0 0]) (by simp only [List.map_toArray, List.map_cons, List.map_nil, evb, kb, hN, seval]; kernel_rfl) ?_
    refine zaA (b := w.heap.size) (n := 2) (l' := [.bool true, .slice none 0 0]) (by kernel_rfl) (by simp [evb, kb, hN, sdb]) (by simp [evb, kb, hN, sdb]) hb1 rfl (by intro y hy; simp only [List.mem_cons, List.not_mem_nil, or_false] at hy; rcases hy with rfl | rfl <;> rfl) rfl fun w2 hb2 hc2 => ?_
    refine zaa ?_; refine hK _ _ ?_; clear hK K
    refine wp_ret ⟨by simp only [zab, hD], w.heap.size, _, _, by simp only [evb, pvb, rnb, kb, hN, seval], hb2, by kernel_rfl, _, rfl, ⟨none, 0, rfl, Nat.le_refl _, .inl rfl⟩, hc1.trans hc2 fun n hn h => by omega⟩
  | some l =>
    obtain ⟨b, cap, rfl, h2, h3⟩ := h
    refine wp_seq_k fun K hK => ?_; refine wp_seq_k fun K0 hK0 => ?_; refine zac ?_; (repeat ((with_reducible refine zah ?_ ?_ ?_); (· simp [evb, pvb, rnb, kb, hN, h0, dyb, sdb] <;> omega); (· kernel_rfl); try simp only [evb, pvb, rnb, kb, hN, seval, h0]))
    refine wl_eqlNilS (by kernel_rfl) (by simp [evb, kb, hN, sdb]) ?_
    simp only [evb, kb, hN, seval]
    refine zaa ?_; refine hK0 _ _ ?_; try clear hK0 K0
    refine wp_cond_false (by simp [evb, kb, hN, isNilS, sdb]) ?_
    refine wp_skip (hK _ _ ?_)
    clear hK K
    refine wp_seq_k fun K hK => ?_; refine zac ?_
    refine wl_lit0 (e := eB) (sz := 1) (z := .int .u8 0) bT.ht (by kernel_rfl) (fun w => Tryd.zeroValue5 w) (by decide) fun w2 hc2 hb2 hs2 => ?_
    have hc02 := hc1.trans hc2 fun _ _ h => h
    have hb12 := hb1.chg hc2 fun h => h
    (repeat ((with_reducible refine zah ?_ ?_ ?_); (· simp [evb, pvb, rnb, kb, hN, h0, dyb, sdb] <;> omega); (· kernel_rfl); try simp only [evb, pvb, rnb, kb, hN, seval, h0]))
    refine wl_append (c := cap) (oa := some b) (v := .slice (some ⟨w1.heap.size, 0, none⟩) 0 0) (bs := []) (base := w1.heap.size) bT (by simp only [evb, pvb, rnb, kb, hN, seval]) (by simp only [evb, pvb, rnb, kb, hN, seval]) (own_blk0 hb2 (Nat.le_refl _)) (h3.chg hc02 fun _ _ _ h => h) (by rw [List.length_nil, Nat.zero_add]; exact hl) (by omega) ?_
    intro v3 w3 happ
    have hc3 : Chg (fun k => k = w1.heap.size) w2 w3 := happ.chg.mono fun n hn hk => by simp [Value.ownBlock] at hk; omega
    have hb13 := hb12.chg hc3 (by omega)
    have h4 := happ.own
    rw [List.nil_append] at h4
    obtain ⟨oa3, c3, rfl, q1, q2⟩ := own_at h4
    refine wl_build (l := [.bool false, .slice oa3 l.length c3]) (by simp only [List.map_toArray, List.map_cons, List.map_nil, evb, kb, hN, seval]; kernel_rfl) ?_
    refine zaA (b := w.heap.size) (n := 2) (l' := [.bool false, .slice oa3 l.length c3]) (by kernel_rfl) (by simp [evb, kb, hN, sdb]) (by simp [evb, kb, hN, sdb]) hb13 rfl (by intro y hy; simp only [List.mem_cons, List.not_mem_nil, or_false] at hy; rcases hy with rfl | rfl <;> rfl) rfl fun w4 hb4 hc4 => ?_
    refine zaa ?_; refine hK _ _ ?_; clear hK K
    have hs1' := hc1.size
    refine wp_ret ⟨by simp only [zab, hD], w.heap.size, _, _, by simp only [evb, pvb, rnb, kb, hN, seval], hb4, by kernel_rfl, _, rfl, ⟨oa3, c3, rfl, q1, (q2.chg hc4 fun g hg _ e => by omega).mono fun g hg _ => by omega⟩, ((hc02.trans hc3 fun n hn h => by omega).trans hc4 fun n hn h => by omega)⟩
end Go.Proofs.YtojpodeljpfgaaaDoor
