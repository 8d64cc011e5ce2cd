import Derived.Test.YtojpodeljpfgaaaDoorZ9
import Derived.Test.YtojpodeljpfgaaaDoorZS
/-
What the proofs of the laws rest on, part Z0.
-/
namespace Go.Proofs.YtojpodeljpfgaaaDoor
set_option linter.all false
open Go.RowKit
set_option maxRecDepth 10000
set_option maxHeartbeats 4000000
def Fin3 (r s t : Nat) (R : Value → World → Prop) : Exit → Act → World → Prop
  | .normal, a, w | .ret, a, w => a.defers = [] ∧ R (.tuple #[get a r, get a s, get a t]) w
  | _, _, _ => False
theorem res3 {fn : Func} {r s t : Nat} (h : fn.results = #[.tmp r, .tmp s, .tmp t]) (tmps : Array Value) (P : Program) (w : World) : (results fn tmps).run P w = .ok (.tuple #[tmps.getD r undef, tmps.getD s undef, tmps.getD t undef]) w := by
  simp [results, h]
theorem callsR_of3 {P : Program} {f : FuncId} {fn : Func} {c : Code} {args : Array Value} {w : World} {R : Value → World → Prop} {r s t n : Nat}
    (hf : P.funcs[f]? = some fn) (hb : fn.body = some c) (hr : fn.results = #[.tmp r, .tmp s, .tmp t]) (hn : fn.ntmps = n) (hs : args.size ≤ n)
    (h : ∀ a : Act, a.tmps.size = n → a.defers = [] → (∀ i v, args[i]? = some v → get a i = v) → c.wp P (Fin3 r s t R) a w) : zan P f args w R := by
  refine calls_of_wp hf hb ?_
  refine wp_mono (h (Start fn args) (start_size hn hs) rfl fun i v => start_get) ?_
  intro e a w' hq
  cases e <;> simp only [Fin3] at hq
  · exact ⟨hq.1, _, res3 hr _ _ _, _, rfl, hq.2⟩
  · exact ⟨hq.1, _, res3 hr _ _ _, _, rfl, hq.2⟩
theorem uvarAux_at (k x : Nat) : zat (k + 1) x = if x < 128 then [UInt8.ofNat x] else UInt8.ofNat (x % 128 + 128) :: zat k (x / 128) := by rw [zat]
theorem or_grp {U i : Nat} (hU : U < 4294967296) (hi : i < 5) : orI .u64 ((U % 128 ^ i : Nat) : Int) (shlI .u64 (7 * i) ((U / 128 ^ i % 128 : Nat) : Int)) = ((U % 128 ^ (i + 1) : Nat) : Int) := by
  have hc : i = 0 ∨ i = 1 ∨ i = 2 ∨ i = 3 ∨ i = 4 := by omega
  rcases hc with rfl | rfl | rfl | rfl | rfl
  · rw [zaB (k := .u64) rfl (c := 7 * 0) (y := U / 128 ^ 0 % 128) (by decide) (by show _ < 18446744073709551616; omega)]
    rw [zaL (k := .u64) rfl (j := 7 * 0) (y := U / 128 ^ 0 % 128) (x := U % 128 ^ 0) (by show _ < 1; omega) (by show _ < 18446744073709551616; omega)]
    congr 1; omega
  · rw [zaB (k := .u64) rfl (c := 7 * 1) (y := U / 128 ^ 1 % 128) (by decide) (by show _ < 18446744073709551616; omega)]
    rw [zaL (k := .u64) rfl (j := 7 * 1) (y := U / 128 ^ 1 % 128) (x := U % 128 ^ 1) (by show _ < 128; omega) (by show _ < 18446744073709551616; omega)]
    congr 1; omega
  · rw [zaB (k := .u64) rfl (c := 7 * 2) (y := U / 128 ^ 2 % 128) (by decide) (by show _ < 18446744073709551616; omega)]
    rw [zaL (k := .u64) rfl (j := 7 * 2) (y := U / 128 ^ 2 % 128) (x := U % 128 ^ 2) (by show _ < 16384; omega) (by show _ < 18446744073709551616; omega)]
    congr 1; omega
  · rw [zaB (k := .u64) rfl (c := 7 * 3) (y := U / 128 ^ 3 % 128) (by decide) (by show _ < 18446744073709551616; omega)]
    rw [zaL (k := .u64) rfl (j := 7 * 3) (y := U / 128 ^ 3 % 128) (x := U % 128 ^ 3) (by show _ < 2097152; omega) (by show _ < 18446744073709551616; omega)]
    congr 1; omega
  · rw [zaB (k := .u64) rfl (c := 7 * 4) (y := U / 128 ^ 4 % 128) (by decide) (by show _ < 18446744073709551616; omega)]
    rw [zaL (k := .u64) rfl (j := 7 * 4) (y := U / 128 ^ 4 % 128) (x := U % 128 ^ 4) (by show _ < 268435456; omega) (by show _ < 18446744073709551616; omega)]
    congr 1; omega
theorem div_grp (U i : Nat) : U / 128 ^ i / 128 = U / 128 ^ (i + 1) := by rw [Nat.div_div_eq_div_mul, Nat.pow_succ]
theorem mod_grp {U i : Nat} (h : U / 128 ^ i < 128) : U % 128 ^ (i + 1) = U := Nat.mod_eq_of_lt (by
  have hp : 0 < 128 ^ i := Nat.pow_pos (by decide)
  rw [Nat.pow_succ, Nat.mul_comm]
  exact (Nat.div_lt_iff_lt_mul hp).1 h)
theorem mul2b (k j : IntKind) (x y : Int) : mul2 (.int k x) (.int j y) = .int k (k.wrap (x * y)) := rfl
theorem readVarint_c {w : World} {G : Nat → Prop} {n : Int} {r : Bs} {oa : Option Addr} {cap : Nat} (hn : -2147483648 ≤ n ∧ n < 2147483648) (hb : zam w G oa (zaN n ++ r)) (hlim : (zaN n ++ r).length ≤ LIM) :
    zan Tryd.prog 12 #[.slice oa (zaN n ++ r).length cap, .int .i64 32] w fun v w' => v = .tuple #[.int .i64 n, .int .i64 (zaN n).length, .int .i64 0] ∧ w' = w := by
  have hU := zz_lt32 hn
  have hun := unzz_zz n
  generalize hl : zaN n ++ r = l at *
  have hvl := zaC n
  unfold LIM at hlim
  have hne : l ≠ [] := fun e => by
    have := congrArg List.length (hl.trans e)
    simp only [List.length_append, List.length_nil] at this
    omega
  obtain ⟨b, o, rfl, hx⟩ := hb.at_ hne
  refine callsR_of3 Tryd.func12 rfl rfl Tryd.ntmps12 (by simp) ?_
  intro a hN hD hargs
  have h0 : get a 0 = .slice (some ⟨b, o, none⟩) l.length cap := hargs 0 _ rfl
  have h1 : get a 1 = .int .i64 32 := hargs 1 _ rfl
  have hvn : zaN n = zat 9 (zz n) := rfl
  generalize hz : zz n = U at *
  refine wp_seq_k fun K hK => ?_; refine zac ?_; (repeat ((with_reducible refine zah ?_ ?_ ?_); (· simp [evb, pvb, rnb, kb, hN, dyb, sdb] <;> omega); (· kernel_rfl); try simp only [evb, pvb, rnb, kb, hN, seval])); refine zaa ?_; refine hK _ _ ?_; clear hK K
  refine wp_seq_k fun K hK => ?_; refine zac ?_; (repeat ((with_reducible refine zah ?_ ?_ ?_); (· simp [evb, pvb, rnb, kb, hN, dyb, sdb] <;> omega); (· kernel_rfl); try simp only [evb, pvb, rnb, kb, hN, seval])); refine zaa ?_; refine hK _ _ ?_; clear hK K
  have e6 : IntKind.i64.wrap 38 = 38 := rfl
  refine wp_seq_k fun K hK => ?_; refine wp_seq_k fun K1 hK1 => ?_; refine zac ?_; (repeat ((with_reducible refine zah ?_ ?_ ?_); (· simp [evb, pvb, rnb, kb, hN, h1, e6, dyb, sdb] <;> omega); (· kernel_rfl); try simp only [evb, pvb, rnb, kb, hN, seval, h1, e6]))
  refine wl_quo (k := .i64) (m := 38) (n := 7) (by simp only [evb, pvb, rnb, kb, hN, seval]) (by simp only [evb, pvb, rnb, kb, hN, seval]) (by decide) (by decide) ?_
  (repeat ((with_reducible refine zah ?_ ?_ ?_); (· simp [evb, pvb, rnb, kb, hN, dyb, sdb] <;> omega); (· kernel_rfl); try simp only [evb, pvb, rnb, kb, hN, seval])); refine zaa ?_; refine hK1 _ _ ?_; try clear hK1 K1
  refine wp_range (n := 5) (fun i a' w' => ∃ pre, a'.tmps.size = 62 ∧ a'.defers = [] ∧ get a' 0 = .slice (some ⟨b, o, none⟩) l.length cap ∧ get a' 1 = .int .i64 32 ∧ get a' 7 = .int .u64 ((U % 128 ^ i : Nat) : Int) ∧ w' = w ∧ pre.length = i ∧ zaN n = pre ++ zat (9 - i) (U / 128 ^ i)) 62 (by omega)
    (by simp only [evb, kb, hN, seval]; try rfl) (by simp only [evb, kb, hN, seval]) ⟨[], by simp only [evb, kb, hN, seval], by simp [zab, hD], by simp only [evb, kb, hN, seval, h0], by simp only [evb, kb, hN, seval, h1], by simp only [evb, kb, hN, seval]; simp [Nat.mod_one], rfl, rfl, by simpa using hvn⟩ ?_ ?_ (by decide) ?_ ?_
  · rintro i a w ⟨_, h, _⟩; exact h
  · rintro i a w t v ht ⟨pre, k1, k2, k3, k4, k5, k6⟩
    rcases ht with rfl | rfl | rfl <;> exact ⟨pre, by rw [zaf]; exact k1, by rw [zab]; exact k2, by rw [zaq (by decide)]; exact k3, by rw [zaq (by decide)]; exact k4, by rw [zaq (by decide)]; exact k5, k6⟩
  · clear hN hD h0 h1 hargs
    rintro i a1 w1 hi ⟨pre, hN, hD, g0, g1, g7, rfl, hpre, hv⟩ g12 g13
    obtain ⟨j, hj⟩ : ∃ j, 9 - i = j + 1 ∧ 9 - (i + 1) = j := ⟨8 - i, by omega, by omega⟩
    rw [hj.1, uvarAux_at] at hv
    obtain ⟨c, hc1, hc2, hc3⟩ : ∃ c : UInt8, l[i]? = some c ∧ c.toNat % 128 = U / 128 ^ i % 128 ∧ (c.toNat < 128 ↔ U / 128 ^ i < 128) := by
      by_cases hy : U / 128 ^ i < 128
      · rw [if_pos hy] at hv
        refine ⟨UInt8.ofNat (U / 128 ^ i), by rw [← hl, hv, List.append_assoc, List.getElem?_append_right (by omega), hpre, Nat.sub_self]; rfl, ?_, ?_⟩
        · rw [UInt8.toNat_ofNat']; generalize U / 128 ^ i = y at hy ⊢; omega
        · rw [UInt8.toNat_ofNat']; generalize U / 128 ^ i = y at hy ⊢; omega
      · rw [if_neg hy] at hv
        refine ⟨UInt8.ofNat (U / 128 ^ i % 128 + 128), by rw [← hl, hv, List.append_assoc, List.getElem?_append_right (by omega), hpre, Nat.sub_self]; rfl, ?_, ?_⟩
        · rw [UInt8.toNat_ofNat']; generalize U / 128 ^ i = y at hy ⊢; omega
        · rw [UInt8.toNat_ofNat']; generalize U / 128 ^ i = y at hy ⊢; omega
    have hil : i < l.length := (List.getElem?_eq_some_iff.1 hc1).1
    have hc256 := c.toNat_lt
    refine wp_seq_k fun K3 hK3 => ?_; refine zac ?_; (repeat ((with_reducible refine zah ?_ ?_ ?_); (· simp [evb, pvb, rnb, kb, hN, g13, dyb, sdb] <;> omega); (· kernel_rfl); try simp only [evb, pvb, rnb, kb, hN, seval, g13])); refine zaa ?_; refine hK3 _ _ ?_; try clear hK3 K3
    have d1 : decide ((l.length : Int) ≤ (i : Int)) = false := decide_eq_false (by omega)
    refine wp_seq_k fun K3 hK3 => ?_
    refine wp_seq_k fun K4 hK4 => ?_; refine zac ?_; (repeat ((with_reducible refine zah ?_ ?_ ?_); (· simp [evb, pvb, rnb, kb, hN, g0, d1, dyb, sdb] <;> omega); (· kernel_rfl); try simp only [evb, pvb, rnb, kb, hN, seval, g0, d1])); refine zaa ?_; refine hK4 _ _ ?_; try clear hK4 K4
    refine wp_cond_false (by simp only [evb, pvb, rnb, kb, hN, seval]) ?_
    refine wp_skip ?_
    refine hK3 _ _ ?_; try clear hK3 K3
    have pi := hx i c hc1
    refine wp_seq_k fun K3 hK3 => ?_; refine zac ?_; (repeat ((with_reducible refine zah ?_ ?_ ?_); (· simp [evb, pvb, rnb, kb, hN, g0, fo, Int.toNat_natCast, Nat.mul_one, pi, and7, u64_sm (show c.toNat % 128 < 256 by omega), dyb, sdb] <;> omega); (· kernel_rfl); try simp only [evb, pvb, rnb, kb, hN, seval, g0, fo, Int.toNat_natCast, Nat.mul_one, pi, and7, u64_sm (show c.toNat % 128 < 256 by omega)])); refine zaa ?_; refine hK3 _ _ ?_; try clear hK3 K3
    have m1 : IntKind.i64.wrap (7 * (i : Int)) = ((7 * i : Nat) : Int) := by rw [i64_sm _ (by omega)]; rfl
    have m2 : IntKind.i64.wrap (((7 * i : Nat) : Int) + 7) = ((7 * i + 7 : Nat) : Int) := by rw [i64_sm _ (by omega)]; rfl
    refine wp_seq_k fun K3 hK3 => ?_
    refine wp_joinW (Q1 := K3) (fun a' w' => a'.tmps.size = 62 ∧ a'.defers = [] ∧ get a' 0 = .slice (some ⟨b, o, none⟩) l.length cap ∧ get a' 7 = .int .u64 ((U % 128 ^ i : Nat) : Int) ∧ get a' 8 = .int .i64 i ∧ get a' 9 = .int .u64 ((c.toNat % 128 : Nat) : Int) ∧ get a' 1 = .int .i64 32 ∧ get a' 12 = .int .i64 5 ∧ get a' 13 = .int .i64 i ∧ w' = w1) ?_ fun fin => ?_
    rotate_left
    · refine wp_seq_k fun K4 hK4 => ?_; refine zac ?_
      by_cases h4 : i = 4
      · have d2 : decide ((32 : Int) < ((7 * i + 7 : Nat) : Int)) = true := decide_eq_true (by omega)
        have m3 : IntKind.i64.wrap (32 - ((7 * i : Nat) : Int)) = 4 := by rw [i64_sm _ (by omega)]; omega
        have hx4 : U / 128 ^ i < 16 := by rw [h4]; show U / 268435456 < 16; omega
        have d3 : decide ((0 : Int) < ((c.toNat % 128 : Nat) : Int) / 2 ^ min 4 IntKind.u64.bits) = false := decide_eq_false (by
          have : ((c.toNat % 128 : Nat) : Int) / 2 ^ min 4 IntKind.u64.bits = ((c.toNat % 128 / 16 : Nat) : Int) := rfl
          rw [this]
          generalize U / 128 ^ i = y at hx4 hc2
          omega)
        (repeat (first | ((with_reducible refine zah ?_ ?_ ?_); (· simp [evb, pvb, rnb, kb, hN, seval, g1, mul2b, m1, m2, m3, d2, dyb, sdb] <;> omega); (· kernel_rfl); try simp only [evb, pvb, rnb, kb, hN, seval, g1, mul2b, m1, m2, m3, d2]) | ((with_reducible apply zau); (· exact rfl); (· exact rfl); (· simp [evb, pvb, rnb, kb, hN, seval, g1, mul2b, m1, m2, m3, d2]; done); try simp only [evb, pvb, rnb, kb, hN, seval, g1, mul2b, m1, m2, m3, d2]) | ((with_reducible apply zaD); (· exact rfl); (· exact rfl); (· simp [evb, pvb, rnb, kb, hN, seval, g1, mul2b, m1, m2, m3, d2]; done); try simp only [evb, pvb, rnb, kb, hN, seval, g1, mul2b, m1, m2, m3, d2]) | ((with_reducible apply zaE); (· exact rfl); (· exact rfl); (· simp [evb, pvb, rnb, kb, hN, seval, g1, mul2b, m1, m2, m3, d2]; done); try simp only [evb, pvb, rnb, kb, hN, seval, g1, mul2b, m1, m2, m3, d2])))
        refine wl_shrV (j := .i64) (c := 4) (by simp only [evb, pvb, rnb, kb, hN, seval]; rfl) (by simp only [evb, pvb, rnb, kb, hN, seval]) ?_
        simp only [evb, pvb, rnb, kb, hN, seval]
        (repeat (first | ((with_reducible refine zah ?_ ?_ ?_); (· simp [evb, pvb, rnb, kb, hN, seval, d3, dyb, sdb] <;> omega); (· kernel_rfl); try simp only [evb, pvb, rnb, kb, hN, seval, d3]) | ((with_reducible apply zau); (· exact rfl); (· exact rfl); (· simp [evb, pvb, rnb, kb, hN, seval, d3]; done); try simp only [evb, pvb, rnb, kb, hN, seval, d3]) | ((with_reducible apply zaD); (· exact rfl); (· exact rfl); (· simp [evb, pvb, rnb, kb, hN, seval, d3]; done); try simp only [evb, pvb, rnb, kb, hN, seval, d3]) | ((with_reducible apply zaE); (· exact rfl); (· exact rfl); (· simp [evb, pvb, rnb, kb, hN, seval, d3]; done); try simp only [evb, pvb, rnb, kb, hN, seval, d3])))
        refine zaa ?_; refine hK4 _ _ ?_; try clear hK4 K4
        refine wp_cond_false (by simp only [evb, pvb, rnb, kb, hN, seval]) ?_
        refine wp_skip ?_
        exact fin _ _ ⟨by simp only [zaf, hN], by simp only [zab, hD], by simp only [evb, pvb, rnb, kb, hN, seval, g0], by simp only [evb, pvb, rnb, kb, hN, seval, g7], by simp only [evb, pvb, rnb, kb, hN, seval], by simp only [evb, pvb, rnb, kb, hN, seval], by simp only [evb, pvb, rnb, kb, hN, seval, g1], by simp only [evb, pvb, rnb, kb, hN, seval, g12], by simp only [evb, pvb, rnb, kb, hN, seval, g13], rfl⟩
      · have d2 : decide ((32 : Int) < ((7 * i + 7 : Nat) : Int)) = false := decide_eq_false (by omega)
        (repeat (first | ((with_reducible refine zah ?_ ?_ ?_); (· simp [evb, pvb, rnb, kb, hN, seval, g1, mul2b, m1, m2, d2, dyb, sdb] <;> omega); (· kernel_rfl); try simp only [evb, pvb, rnb, kb, hN, seval, g1, mul2b, m1, m2, d2]) | ((with_reducible apply zau); (· exact rfl); (· exact rfl); (· simp [evb, pvb, rnb, kb, hN, seval, g1, mul2b, m1, m2, d2]; done); try simp only [evb, pvb, rnb, kb, hN, seval, g1, mul2b, m1, m2, d2]) | ((with_reducible apply zaD); (· exact rfl); (· exact rfl); (· simp [evb, pvb, rnb, kb, hN, seval, g1, mul2b, m1, m2, d2]; done); try simp only [evb, pvb, rnb, kb, hN, seval, g1, mul2b, m1, m2, d2]) | ((with_reducible apply zaE); (· exact rfl); (· exact rfl); (· simp [evb, pvb, rnb, kb, hN, seval, g1, mul2b, m1, m2, d2]; done); try simp only [evb, pvb, rnb, kb, hN, seval, g1, mul2b, m1, m2, d2])))
        refine zaa ?_; refine hK4 _ _ ?_; try clear hK4 K4
        refine wp_cond_false (by simp only [evb, pvb, rnb, kb, hN, seval]) ?_
        refine wp_skip ?_
        exact fin _ _ ⟨by simp only [zaf, hN], by simp only [zab, hD], by simp only [evb, pvb, rnb, kb, hN, seval, g0], by simp only [evb, pvb, rnb, kb, hN, seval, g7], by simp only [evb, pvb, rnb, kb, hN, seval], by simp only [evb, pvb, rnb, kb, hN, seval], by simp only [evb, pvb, rnb, kb, hN, seval, g1], by simp only [evb, pvb, rnb, kb, hN, seval, g12], by simp only [evb, pvb, rnb, kb, hN, seval, g13], rfl⟩
    clear hN hD g0 g1 g7 g12 g13
    rintro a2 w2 ⟨hN, hD, g0, g7, g8, g9, g1, g12, g13, rfl⟩
    refine hK3 _ _ ?_
    clear hK3 K3
    have oi := or_grp (U := U) (i := i) hU hi
    rw [← hc2] at oi
    refine wp_seq_k fun K3 hK3 => ?_; refine zac ?_; (repeat ((with_reducible refine zah ?_ ?_ ?_); (· simp [evb, pvb, rnb, kb, hN, g7, g8, g9, mul2b, m1, dyb, sdb] <;> omega); (· kernel_rfl); try simp only [evb, pvb, rnb, kb, hN, seval, g7, g8, g9, mul2b, m1]))
    refine wl_shlT (k := .u64) (j := .i64) (m := ((c.toNat % 128 : Nat) : Int)) (c := 7 * i) (by simp only [evb, pvb, rnb, kb, hN, seval]) (by simp only [evb, pvb, rnb, kb, hN, seval]) ?_
    (repeat ((with_reducible refine zah ?_ ?_ ?_); (· simp [evb, pvb, rnb, kb, hN, oi, dyb, sdb] <;> omega); (· kernel_rfl); try simp only [evb, pvb, rnb, kb, hN, seval, oi])); refine zaa ?_; refine hK3 _ _ ?_; try clear hK3 K3
    by_cases hy : U / 128 ^ i < 128
    · have d3 : decide ((c.toNat : Int) < 128) = true := decide_eq_true (by have := hc3.2 hy; omega)
      have hvl2 : (zaN n).length = i + 1 := by rw [hv, if_pos hy, List.length_append, hpre]; rfl
      have hU64 : U < 18446744073709551616 := by omega
      have hmu := mod_grp hy
      rw [hmu] at oi
      have bk := back64s hU64
      rw [hun] at bk
      have hi1 : IntKind.i64.wrap ((i : Int) + 1) = ((i + 1 : Nat) : Int) := i64_sm _ (by omega)
      refine wp_seq_k fun K3 hK3 => ?_; refine zac ?_; (repeat ((with_reducible refine zah ?_ ?_ ?_); (· simp [evb, pvb, rnb, kb, hN, g0, g8, fo, Int.toNat_natCast, Nat.mul_one, pi, d3, dyb, sdb] <;> omega); (· kernel_rfl); try simp only [evb, pvb, rnb, kb, hN, seval, g0, g8, fo, Int.toNat_natCast, Nat.mul_one, pi, d3])); refine zaa ?_; refine hK3 _ _ ?_; try clear hK3 K3
      refine wp_cond_true (by simp only [evb, pvb, rnb, kb, hN, seval]) ?_
      refine wp_seq_k fun K3 hK3 => ?_; refine zac ?_
      rw [hmu]
      (repeat ((with_reducible refine zah ?_ ?_ ?_); (· simp [evb, pvb, rnb, kb, hN, and1_u64 U hU64, dyb, sdb] <;> omega); (· kernel_rfl); try simp only [evb, pvb, rnb, kb, hN, seval, and1_u64 U hU64]))
      refine wl_neg (k := .i64) (m := IntKind.i64.wrap ((U : Int) % 2)) (by simp only [evb, pvb, rnb, kb, hN, seval]) ?_
      refine wl_xor (k := .i64) (m := IntKind.i64.wrap ((U : Int) / 2)) (n := IntKind.i64.wrap (-(IntKind.i64.wrap ((U : Int) % 2)))) (by simp only [evb, pvb, rnb, kb, hN, seval]; try rfl) (by simp only [evb, pvb, rnb, kb, hN, seval]) ?_
      rw [bk]
      (repeat ((with_reducible refine zah ?_ ?_ ?_); (· simp [evb, pvb, rnb, kb, hN, g8, hi1, dyb, sdb] <;> omega); (· kernel_rfl); try simp only [evb, pvb, rnb, kb, hN, seval, g8, hi1])); refine zaa ?_; refine hK3 _ _ ?_; try clear hK3 K3
      refine wp_ret ⟨by simp [zab, hD], ?_⟩; simp only [evb, kb, hN, seval]
      exact ⟨by rw [hvl2], by first | rfl | trivial⟩
    · have d3 : decide ((c.toNat : Int) < 128) = false := decide_eq_false (by have := fun h => hy (hc3.1 h); omega)
      refine wp_seq_k fun K3 hK3 => ?_; refine zac ?_; (repeat ((with_reducible refine zah ?_ ?_ ?_); (· simp [evb, pvb, rnb, kb, hN, g0, g8, fo, Int.toNat_natCast, Nat.mul_one, pi, d3, dyb, sdb] <;> omega); (· kernel_rfl); try simp only [evb, pvb, rnb, kb, hN, seval, g0, g8, fo, Int.toNat_natCast, Nat.mul_one, pi, d3])); refine zaa ?_; refine hK3 _ _ ?_; try clear hK3 K3
      refine wp_cond_false (by simp only [evb, pvb, rnb, kb, hN, seval]) ?_
      refine wp_skip ⟨⟨pre ++ [UInt8.ofNat (U / 128 ^ i % 128 + 128)], by simp only [zaf, hN], by simp only [zab, hD], by simp only [evb, pvb, rnb, kb, hN, seval, g0], by simp only [evb, pvb, rnb, kb, hN, seval, g1], by simp only [evb, pvb, rnb, kb, hN, seval], rfl, by rw [List.length_append, hpre]; rfl, ?_⟩, by simp only [evb, pvb, rnb, kb, hN, seval, g12], by simp only [evb, pvb, rnb, kb, hN, seval, g13]⟩
      rw [if_neg hy] at hv
      rw [hv, List.append_assoc, ← div_grp, hj.2]; rfl
  · clear hN hD h0 h1 hargs
    rintro a1 w1 ⟨pre, hN, hD, g0, g1, g7, rfl, hpre, hv⟩
    exfalso
    have h5 := uvl_len5 U hU
    have h6 : (uvl U).length = pre.length + (zat (9 - 5) (U / 128 ^ 5)).length := by rw [← List.length_append, ← hv, hvn]; rfl
    have h7 := uvarAux_len (9 - 5) (U / 128 ^ 5)
    omega
end Go.Proofs.YtojpodeljpfgaaaDoor
namespace Go.Proofs.YtojpodeljpfgaaaDoor
set_option linter.all false
open Go.RowKit
set_option maxRecDepth 10000
set_option maxHeartbeats 4000000
section
variable {P : Program} {ops : Array Oper} {Q : Exit → Act → World → Prop} {a : Act} {w : World} {rest : List Oper} {d : Option Nat} {ty : TypeId} {pos : String} {af : Array Edge} {x y : Operand} {t tt : TypeId}
def boolTB (P : Program) (t : Nat) : Bool := match P.underlying t with | some .bool => true | _ => false
theorem boolTB_out {t : Nat} (h : boolTB P t = true) : P.underlying t = some .bool := by
  unfold boolTB at h
  split at h
  · assumption
  · cases h
theorem wl_boolEq {b c : Bool} (ht : boolTB P t = true) (hx : a.eval x = .bool b) (hy : a.eval y = .bool c) (h : WL P ops Q rest (a.put d (.bool (b == c))) w) : WL P ops Q (⟨d, .binOp .eql t x y tt, ty, pos, af, none⟩ :: rest) a w := by
  refine zaK rfl ?_ h
  obtain ⟨n, hn⟩ := depth_succ
  have hm := boolTB_out ht
  cases b <;> cases c <;> simp [execOp, eqGuard, binOp, hx, hy, Op.equal, hn, Op.equalIn, underlying, hm]
theorem ws_strSame {S : World → Prop} {Q : Act → World → Prop} {r : List (Bool × Nat)} {i : Nat} {l : ByteArray} (hi : ops[i]? = some ⟨d, .binOp .neq t x y tt, ty, pos, af, none⟩) (hx : a.eval x = .string l) (hy : a.eval y = .string l) (h : zao P ops S Q r (a.put d (.bool false)) w) : zao P ops S Q ((true, i) :: r) a w :=
  ws_float _ hi (fun w _ => by simp [execOp, eqGuard, binOp, hx, hy, Op.stringOp]) h
end
theorem octO_eq {x y : Oct} (h : octO x = octO y) : x.null = y.null ∧ (x.null = false → x.data = y.data) := by
  unfold octO at h
  cases hx : x.null <;> cases hy : y.null <;> simp [hx, hy] at h ⊢ <;> exact h
theorem sameOctets_c {w : World} {G1 G2 : Nat → Prop} {x y : Oct} {vs us : List Value} (hx : OctC w G1 x vs) (hy : OctC w G2 y us) (he : octO x = octO y) (hlim : x.data.length ≤ LIM) : zan Tryd.prog 24 #[zax vs, zax us] w fun v w' => v = .bool true ∧ Chg (fun _ => False) w w' := by
  obtain ⟨oa, ca, rfl, h2, h3⟩ := hx
  obtain ⟨ob, cb, rfl, h4, h5⟩ := hy
  obtain ⟨hn, hdt⟩ := octO_eq he
  refine zaj Tryd.func24 rfl rfl Tryd.ntmps24 (by simp) ?_
  intro a hN hD hargs
  have h0 : get a 0 = zax [.bool x.null, .slice oa x.data.length ca] := hargs 0 _ rfl
  have h1 : get a 1 = zax [.bool y.null, .slice ob y.data.length cb] := hargs 1 _ rfl
  refine wp_seq_k fun K hK => ?_; refine zac ?_
  refine zaQ (l := [.bool x.null, .slice oa x.data.length ca]) (by simp [evb, kb, hN, h0, sdb]) fun w1 hc1 hb1 hs1 => ?_
  refine zaQ (l := [.bool y.null, .slice ob y.data.length cb]) (by simp [evb, kb, hN, h1, sdb]) fun w2 hc2 hb2 hs2 => ?_
  (repeat ((with_reducible refine zah ?_ ?_ ?_); (· simp [evb, pvb, rnb, kb, hN, dyb, sdb] <;> omega); (· kernel_rfl); try simp only [evb, pvb, rnb, kb, hN, seval])); refine zaa ?_; refine hK _ _ ?_; clear hK K
  have hb12 := hb1.chg hc2 fun h => h
  have hc02 := hc1.trans hc2 fun _ _ h => h
  have l0 := hb12.ld (i := 0) (v := .bool x.null) rfl
  have l1 := hb12.ld (i := 1) (v := .slice oa x.data.length ca) rfl
  have m0 := hb2.ld (i := 0) (v := .bool y.null) rfl
  have m1 := hb2.ld (i := 1) (v := .slice ob y.data.length cb) rfl
  refine wp_seq_k fun K hK => ?_; refine zac ?_; (repeat ((with_reducible refine zah ?_ ?_ ?_); (· simp [evb, pvb, rnb, kb, hN, ofO, l0, m0, dyb, sdb] <;> omega); (· kernel_rfl); try simp only [evb, pvb, rnb, kb, hN, seval, ofO, l0, m0]))
  refine wl_boolEq (b := x.null) (c := y.null) (by kernel_rfl) (by simp only [evb, pvb, rnb, kb, hN, seval]) (by simp only [evb, pvb, rnb, kb, hN, seval]) ?_
  rw [hn]
  rw [hn] at l0
  have hbb : (y.null == y.null) = true := by simp
  rw [hbb]
  cases hz : y.null with
  | true =>
    rw [hz] at l0 m0
    (repeat (first | ((with_reducible refine zah ?_ ?_ ?_); (· simp [evb, pvb, rnb, kb, hN, seval, ofO, l0, m0, l1, m1, dyb, sdb] <;> omega); (· kernel_rfl); try simp only [evb, pvb, rnb, kb, hN, seval, ofO, l0, m0, l1, m1]) | ((with_reducible apply zau); (· exact rfl); (· exact rfl); (· simp [evb, pvb, rnb, kb, hN, seval, ofO, l0, m0, l1, m1]; done); try simp only [evb, pvb, rnb, kb, hN, seval, ofO, l0, m0, l1, m1]) | ((with_reducible apply zaD); (· exact rfl); (· exact rfl); (· simp [evb, pvb, rnb, kb, hN, seval, ofO, l0, m0, l1, m1]; done); try simp only [evb, pvb, rnb, kb, hN, seval, ofO, l0, m0, l1, m1]) | ((with_reducible apply zaE); (· exact rfl); (· exact rfl); (· simp [evb, pvb, rnb, kb, hN, seval, ofO, l0, m0, l1, m1]; done); try simp only [evb, pvb, rnb, kb, hN, seval, ofO, l0, m0, l1, m1])))
    refine zaa ?_; refine hK _ _ ?_; clear hK K; refine wp_ret ⟨by simp [zab, hD], ?_⟩; simp only [evb, kb, hN, seval]
    exact ⟨by first | rfl | trivial, hc02⟩
  | false =>
    rw [hz] at l0 m0
    (repeat (first | ((with_reducible refine zah ?_ ?_ ?_); (· simp [evb, pvb, rnb, kb, hN, seval, ofO, l0, m0, l1, m1, dyb, sdb] <;> omega); (· kernel_rfl); try simp only [evb, pvb, rnb, kb, hN, seval, ofO, l0, m0, l1, m1]) | ((with_reducible apply zau); (· exact rfl); (· exact rfl); (· simp [evb, pvb, rnb, kb, hN, seval, ofO, l0, m0, l1, m1]; done); try simp only [evb, pvb, rnb, kb, hN, seval, ofO, l0, m0, l1, m1]) | ((with_reducible apply zaD); (· exact rfl); (· exact rfl); (· simp [evb, pvb, rnb, kb, hN, seval, ofO, l0, m0, l1, m1]; done); try simp only [evb, pvb, rnb, kb, hN, seval, ofO, l0, m0, l1, m1]) | ((with_reducible apply zaE); (· exact rfl); (· exact rfl); (· simp [evb, pvb, rnb, kb, hN, seval, ofO, l0, m0, l1, m1]; done); try simp only [evb, pvb, rnb, kb, hN, seval, ofO, l0, m0, l1, m1])))
    have hd := hdt (hn.trans hz)
    refine zak (fun args w => Tryd.call41 args w) (by simp only [List.map_toArray, List.map_cons, List.map_nil, evb, kb, hN, seval]; exact Same_c x.data y.data (h3.chg hc02 fun _ _ _ h => h) (h5.chg hc02 fun _ _ _ h => h) hlim) ?_
    rintro _ w3 ⟨rfl, hc3⟩
    rw [decide_eq_true hd]
    (repeat (first | ((with_reducible refine zah ?_ ?_ ?_); (· simp [evb, pvb, rnb, kb, hN, seval, dyb, sdb] <;> omega); (· kernel_rfl); try simp only [evb, pvb, rnb, kb, hN, seval]) | ((with_reducible apply zau); (· exact rfl); (· exact rfl); (· simp [evb, pvb, rnb, kb, hN, seval]; done); try simp only [evb, pvb, rnb, kb, hN, seval]) | ((with_reducible apply zaD); (· exact rfl); (· exact rfl); (· simp [evb, pvb, rnb, kb, hN, seval]; done); try simp only [evb, pvb, rnb, kb, hN, seval]) | ((with_reducible apply zaE); (· exact rfl); (· exact rfl); (· simp [evb, pvb, rnb, kb, hN, seval]; done); try simp only [evb, pvb, rnb, kb, hN, seval])))
    refine zaa ?_; refine hK _ _ ?_; clear hK K; refine wp_ret ⟨by simp [zab, hD], ?_⟩; simp only [evb, kb, hN, seval]
    exact ⟨by first | rfl | trivial, hc02.trans hc3 fun _ _ h => h⟩
theorem ws_aggGr {P : Program} {ops : Array Oper} {w0 : World} {Q : Act → World → Prop} {a : Act} {w : World} {r : List (Bool × Nat)} {d : Option Nat} {i : Nat} {ty : TypeId} {pos : String} {af : Array Edge} {x : Operand} {t b o n : Nat} {l : List Value} {T : TypeId} {g : Nat × Bool} {oo : Oper} {tt : Nat} (ht : aggB P t = true) (hs : sizeB P t n = true)
    (hi : ops[i]? = some ⟨d, .load t x, ty, pos, af, some g⟩) (ho : ops[g.1]? = some oo) (hd : oo.dst = some tt) (hv : get a tt = .bool g.2) (hx : a.eval x = .pointer (some ⟨b, o, none⟩)) (hb : Rbk w0 b l T) (hn : o + n ≤ l.length)
    (h : zao P ops (fun w' => Chg (fun _ => False) w0 w') Q r (a.put d (zax ((l.drop o).take n))) w) : zao P ops (fun w' => Chg (fun _ => False) w0 w') Q ((true, i) :: r) a w :=
  ws_gyes _ hi (yielded_get ho hd hv) (fun w' c => by simp only [execOp, Sem.run_bind, hx, run_loadAgg_r ht hs (hb.chg c fun h => h) hn]; rfl) h
def hdK (h : Hd) : Bs × Option Bs := (h.key, octO h.val)
theorem hdC_at {w : World} {G : Nat → Prop} {x : Hd} {cs : List Value} {k : Nat} (h : HdC w G x ((cs.drop k).take 3)) : cs[k]? = some (.string ⟨x.key.toArray⟩) ∧ OctC w G x.val ((cs.drop (k + 1)).take 2) ∧ k + 3 ≤ cs.length := by
  have hlen := one_hd.len h
  rw [List.length_take, List.length_drop] at hlen
  obtain ⟨vo, h1, h2⟩ := h
  refine ⟨?_, ?_, by omega⟩
  · have := congrArg (·[0]?) h1
    simpa [List.getElem?_take, List.getElem?_drop] using this
  · have e : (cs.drop (k + 1)).take 2 = vo := by
      have := congrArg (List.drop 1) h1
      rw [List.drop_take, List.drop_drop] at this
      exact this
    rw [e]; exact h2
theorem sameHeaders_c {w : World} {G1 G2 : Nat → Prop} {l m : List Hd} {v u : Value} (hx : LsS 3 HdC w G1 l v) (hy : LsS 3 HdC w G2 m u) (he : l.map hdK = m.map hdK) (hlim : ∀ h ∈ l, h.val.data.length ≤ LIM) (hn : l.length ≤ 4611686018427387904) :
    zan Tryd.prog 25 #[v, u] w fun r w' => r = .bool true ∧ Chg (fun _ => False) w w' := by
  have hll : l.length = m.length := by have := congrArg List.length he; simpa using this
  obtain ⟨o1, c1, rfl, hc1, hrow1⟩ := hx
  obtain ⟨o2, c2, rfl, hc2, hrow2⟩ := hy
  refine zaj Tryd.func25 rfl rfl Tryd.ntmps25 (by simp) ?_
  intro a hN hD hargs
  have h0 : get a 0 = .slice o1 l.length c1 := hargs 0 _ rfl
  have h1 : get a 1 = .slice o2 m.length c2 := hargs 1 _ rfl
  have e1 : (((l.length : Int) != (m.length : Int)) : Bool) = false := by rw [hll]; simp
  refine wp_seq_k fun K hK => ?_; refine zac ?_; (repeat ((with_reducible refine zah ?_ ?_ ?_); (· simp [evb, pvb, rnb, kb, hN, dyb, sdb] <;> omega); (· kernel_rfl); try simp only [evb, pvb, rnb, kb, hN, seval])); refine zaa ?_; refine hK _ _ ?_; clear hK K
  refine wp_seq_k fun K hK => ?_; refine wp_seq_k fun K1 hK1 => ?_; refine zac ?_; (repeat ((with_reducible refine zah ?_ ?_ ?_); (· simp [evb, pvb, rnb, kb, hN, h0, h1, e1, dyb, sdb] <;> omega); (· kernel_rfl); try simp only [evb, pvb, rnb, kb, hN, seval, h0, h1, e1])); refine zaa ?_; refine hK1 _ _ ?_; try clear hK1 K1
  refine wp_cond_false (by simp only [evb, pvb, rnb, kb, hN, seval]) ?_
  refine wp_skip (hK _ _ ?_)
  clear hK K
  refine wp_seq_k fun K hK => ?_; refine wp_seq_k fun K1 hK1 => ?_; refine zac ?_; (repeat ((with_reducible refine zah ?_ ?_ ?_); (· simp [evb, pvb, rnb, kb, hN, h0, dyb, sdb] <;> omega); (· kernel_rfl); try simp only [evb, pvb, rnb, kb, hN, seval, h0])); refine zaa ?_; refine hK1 _ _ ?_; try clear hK1 K1
  refine wp_range (n := l.length) (fun i a' w' => a'.tmps.size = 42 ∧ a'.defers = [] ∧ get a' 0 = .slice o1 l.length c1 ∧ get a' 1 = .slice o2 m.length c2 ∧ Chg (fun _ => False) w w') 42 hn
    (by simp only [evb, kb, hN, seval]; try rfl) (by simp only [evb, kb, hN, seval]) ⟨by simp only [evb, kb, hN, seval], by simp [zab, hD], by simp only [evb, kb, hN, seval, h0], by simp only [evb, kb, hN, seval, h1], Chg.refl _ _⟩ ?_ ?_ (by decide) ?_ ?_
  · rintro i a w ⟨h, _⟩; exact h
  · rintro i a w t v ht ⟨k1, k2, k3, k4, k5⟩
    rcases ht with rfl | rfl | rfl <;> exact ⟨by rw [zaf]; exact k1, by rw [zab]; exact k2, by rw [zaq (by decide)]; exact k3, by rw [zaq (by decide)]; exact k4, k5⟩
  · clear hN hD h0 h1 hargs
    rintro i a1 w1 hi ⟨hN, hD, g0, g1, hc⟩ g12 g13
    have hi2 : i < m.length := by omega
    have hxe : l[i]? = some l[i] := by simp [hi]
    have hye : m[i]? = some m[i] := by simp [hi2]
    have hk : hdK l[i] = hdK m[i] := by
      have := congrArg (·[i]?) he
      simpa [List.getElem?_map, hxe, hye] using this
    have hlx := hlim l[i] (List.getElem_mem hi)
    generalize l[i] = x at hxe hk hlx
    generalize m[i] = y at hye hk
    have hk1 : x.key = y.key := congrArg Prod.fst hk
    have hk2 : octO x.val = octO y.val := congrArg Prod.snd hk
    rcases hrow1 with rfl | ⟨b1, p1, cs1, T1, rfl, _, hb1, ht1⟩
    · simp at hi
    rcases hrow2 with rfl | ⟨b2, p2, cs2, T2, rfl, _, hb2, ht2⟩
    · simp at hi2
    have hx1 := (ht1.get one_hd hxe).1
    have hy1 := (ht2.get one_hd hye).1
    rw [List.drop_drop] at hx1 hy1
    have hb11 := hb1.chg hc fun h => h
    have hb21 := hb2.chg hc fun h => h
    obtain ⟨x1, x2, x3⟩ := hdC_at (one_hd.stay (Stay.of hc fun _ _ _ h => h) hx1)
    obtain ⟨y1, y2, y3⟩ := hdC_at (one_hd.stay (Stay.of hc fun _ _ _ h => h) hy1)
    have l1 := hb11.ld x1
    have l2 := hb21.ld y1
    refine wp_seq_k fun K3 hK3 => ?_; refine zac ?_; (repeat ((with_reducible refine zah ?_ ?_ ?_); (· simp [evb, pvb, rnb, kb, hN, g13, dyb, sdb] <;> omega); (· kernel_rfl); try simp only [evb, pvb, rnb, kb, hN, seval, g13])); refine zaa ?_; refine hK3 _ _ ?_; try clear hK3 K3
    refine wp_seq_k fun K3 hK3 => ?_
    refine wp_sched (fun w' => Chg (fun _ => False) w1 w') [(true, 0), (true, 1), (true, 2), (true, 3), (true, 4), (true, 5), (true, 6), (true, 7), (true, 8), (true, 9), (true, 10), (true, 11), (true, 12), (true, 13), (true, 14), (true, 15), (true, 16), (true, 17), (true, 18), (true, 19), (true, 20), (true, 21), (false, 22), (true, 23), (true, 24)] zaz (by kernel_rfl) (by kernel_rfl) (Chg.drew _ _) ?_
    (repeat (first | (refine ws_pX rfl ?_ ?_ ?_; (· simp [evb, pvb, rnb, kb, hN, seval, g0, g1, ofO, Int.toNat_natCast, l1, l2, dyb, sdb] <;> omega); (· kernel_rfl); try simp only [evb, pvb, rnb, kb, hN, seval, g0, g1, ofO, Int.toNat_natCast, l1, l2]) | (refine ws_pgX rfl rfl rfl ?_ ?_ ?_ ?_; (· simp [evb, pvb, rnb, kb, hN, seval, g0, g1, ofO, Int.toNat_natCast, l1, l2]; done); (· simp [evb, pvb, rnb, kb, hN, seval, g0, g1, ofO, Int.toNat_natCast, l1, l2, dyb, sdb] <;> omega); (· kernel_rfl); try simp only [evb, pvb, rnb, kb, hN, seval, g0, g1, ofO, Int.toNat_natCast, l1, l2]) | (refine ws_gnoX rfl rfl rfl ?_ ?_; (· simp [evb, pvb, rnb, kb, hN, seval, g0, g1, ofO, Int.toNat_natCast, l1, l2]; done); try simp only [evb, pvb, rnb, kb, hN, seval, g0, g1, ofO, Int.toNat_natCast, l1, l2])))
    rw [← hk1]
    refine ws_strSame (l := ⟨x.key.toArray⟩) rfl (by simp only [evb, pvb, rnb, kb, hN, seval]) (by simp only [evb, pvb, rnb, kb, hN, seval]) ?_
    (repeat (first | (refine ws_pX rfl ?_ ?_ ?_; (· simp [evb, pvb, rnb, kb, hN, seval, g0, g1, ofO, Int.toNat_natCast, dyb, sdb] <;> omega); (· kernel_rfl); try simp only [evb, pvb, rnb, kb, hN, seval, g0, g1, ofO, Int.toNat_natCast]) | (refine ws_pgX rfl rfl rfl ?_ ?_ ?_ ?_; (· simp [evb, pvb, rnb, kb, hN, seval, g0, g1, ofO, Int.toNat_natCast]; done); (· simp [evb, pvb, rnb, kb, hN, seval, g0, g1, ofO, Int.toNat_natCast, dyb, sdb] <;> omega); (· kernel_rfl); try simp only [evb, pvb, rnb, kb, hN, seval, g0, g1, ofO, Int.toNat_natCast]) | (refine ws_gnoX rfl rfl rfl ?_ ?_; (· simp [evb, pvb, rnb, kb, hN, seval, g0, g1, ofO, Int.toNat_natCast]; done); try simp only [evb, pvb, rnb, kb, hN, seval, g0, g1, ofO, Int.toNat_natCast])))
    refine ws_aggGr (b := b1) (o := p1 + i * 3 + 1) (n := 2) (by kernel_rfl) (by kernel_rfl) rfl rfl rfl (by simp only [evb, pvb, rnb, kb, hN, seval]) (by simp only [evb, pvb, rnb, kb, hN, seval]) hb11 (by omega) ?_
    (repeat (first | (refine ws_pX rfl ?_ ?_ ?_; (· simp [evb, pvb, rnb, kb, hN, seval, g0, g1, ofO, Int.toNat_natCast, dyb, sdb] <;> omega); (· kernel_rfl); try simp only [evb, pvb, rnb, kb, hN, seval, g0, g1, ofO, Int.toNat_natCast]) | (refine ws_pgX rfl rfl rfl ?_ ?_ ?_ ?_; (· simp [evb, pvb, rnb, kb, hN, seval, g0, g1, ofO, Int.toNat_natCast]; done); (· simp [evb, pvb, rnb, kb, hN, seval, g0, g1, ofO, Int.toNat_natCast, dyb, sdb] <;> omega); (· kernel_rfl); try simp only [evb, pvb, rnb, kb, hN, seval, g0, g1, ofO, Int.toNat_natCast]) | (refine ws_gnoX rfl rfl rfl ?_ ?_; (· simp [evb, pvb, rnb, kb, hN, seval, g0, g1, ofO, Int.toNat_natCast]; done); try simp only [evb, pvb, rnb, kb, hN, seval, g0, g1, ofO, Int.toNat_natCast])))
    refine ws_aggGr (b := b2) (o := p2 + i * 3 + 1) (n := 2) (by kernel_rfl) (by kernel_rfl) rfl rfl rfl (by simp only [evb, pvb, rnb, kb, hN, seval]) (by simp only [evb, pvb, rnb, kb, hN, seval]) hb21 (by omega) ?_
    have hcd : Chg (fun _ => False) w1 w1.drew := Chg.drew _ _
    refine ws_callG (fun args w => Tryd.call24 args w) rfl rfl rfl (by simp only [evb, pvb, rnb, kb, hN, seval]) (by simp only [List.map_toArray, List.map_cons, List.map_nil, evb, kb, hN, seval]; exact sameOctets_c (one_oct.stay (Stay.of hcd fun _ _ _ h => h) x2) (one_oct.stay (Stay.of hcd fun _ _ _ h => h) y2) hk2 hlx) ?_
    rintro _ w2 ⟨rfl, hc2'⟩
    have hc12 := hcd.trans hc2' fun _ _ h => h
    refine ⟨hc12, ?_⟩
    (repeat (first | (refine ws_pX rfl ?_ ?_ ?_; (· simp [evb, pvb, rnb, kb, hN, seval, dyb, sdb] <;> omega); (· kernel_rfl); try simp only [evb, pvb, rnb, kb, hN, seval]) | (refine ws_pgX rfl rfl rfl ?_ ?_ ?_ ?_; (· simp [evb, pvb, rnb, kb, hN, seval]; done); (· simp [evb, pvb, rnb, kb, hN, seval, dyb, sdb] <;> omega); (· kernel_rfl); try simp only [evb, pvb, rnb, kb, hN, seval]) | (refine ws_gnoX rfl rfl rfl ?_ ?_; (· simp [evb, pvb, rnb, kb, hN, seval]; done); try simp only [evb, pvb, rnb, kb, hN, seval])))
    refine ws_nil ?_
    refine hK3 _ _ ?_; try clear hK3 K3
    refine wp_cond_false (by simp only [evb, pvb, rnb, kb, hN, seval]) ?_
    refine wp_skip ⟨⟨by simp only [zaf, hN], by simp only [zab, hD], by simp only [evb, kb, hN, seval, g0], by simp only [evb, kb, hN, seval, g1], hc.trans hc12 fun _ _ h => h⟩, by simp only [evb, kb, hN, seval, g12], by simp only [evb, kb, hN, seval, g13]⟩
  · clear hN hD h0 h1 hargs
    rintro a1 w1 ⟨hN, hD, g0, g1, hc⟩
    refine hK _ _ ?_
    clear hK K
    refine wp_seq_k fun K hK => ?_; refine zac ?_; (repeat ((with_reducible refine zah ?_ ?_ ?_); (· simp [evb, pvb, rnb, kb, hN, dyb, sdb] <;> omega); (· kernel_rfl); try simp only [evb, pvb, rnb, kb, hN, seval])); refine zaa ?_; refine hK _ _ ?_; clear hK K; refine wp_ret ⟨by simp [zab, hD], ?_⟩; simp only [evb, kb, hN, seval]
    exact ⟨by first | rfl | trivial, hc⟩
structure RcE (x y : Rc) : Prop where
  len : x.len = y.len
  attr : x.attr = y.attr
  delta : x.delta = y.delta
  off : x.off = y.off
  key : octO x.key = octO y.key
  val : octO x.val = octO y.val
  hs : x.hs.map hdK = y.hs.map hdK
theorem sameRecord_c {w : World} {G1 G2 : Nat → Prop} {x y : Rc} {vs us : List Value} (hx : RcC w G1 x vs) (hy : RcC w G2 y us) (he : RcE x y) (hL : x.key.data.length ≤ LIM ∧ x.val.data.length ≤ LIM) (hlim : ∀ h ∈ x.hs, h.val.data.length ≤ LIM) (hn : x.hs.length ≤ 4611686018427387904) :
    zan Tryd.prog 14 #[zax vs, zax us] w fun v w' => v = .bool true ∧ Chg (fun _ => False) w w' := by
  obtain ⟨k1, k2, v1, v2, vh, hvs, ⟨p1, p2⟩, ⟨p3, p4⟩, p5, p6⟩ := hx
  obtain ⟨j1, j2, u1, u2, uh, hus, ⟨r1, r2⟩, ⟨r3, r4⟩, r5, r6⟩ := hy
  refine zaj Tryd.func14 rfl rfl Tryd.ntmps14 (by simp) ?_
  intro a hN hD hargs
  have h0 : get a 0 = zax vs := hargs 0 _ rfl
  have h1 : get a 1 = zax us := hargs 1 _ rfl
  refine wp_seq_k fun K hK => ?_; refine zac ?_
  refine zaQ (l := vs) (by simp [evb, kb, hN, h0, sdb]) fun w1 hc1 hb1 hs1 => ?_
  refine zaQ (l := us) (by simp [evb, kb, hN, h1, sdb]) fun w2 hc2 hb2 hs2 => ?_
  (repeat ((with_reducible refine zah ?_ ?_ ?_); (· simp [evb, pvb, rnb, kb, hN, dyb, sdb] <;> omega); (· kernel_rfl); try simp only [evb, pvb, rnb, kb, hN, seval])); refine zaa ?_; refine hK _ _ ?_; clear hK K
  have hb12 := hb1.chg hc2 fun h => h
  have hc02 := hc1.trans hc2 fun _ _ h => h
  obtain ⟨oh, ch, hvh, _⟩ := p5.sl
  obtain ⟨qh, dh, huh, _⟩ := r5.sl
  have l0 := hb12.ld (i := 0) (v := .int .i32 x.len) (by rw [hvs]; rfl)
  have l1 := hb12.ld (i := 1) (v := .int .i8 x.attr) (by rw [hvs]; rfl)
  have l2 := hb12.ld (i := 2) (v := .int .i64 x.delta) (by rw [hvs]; rfl)
  have l3 := hb12.ld (i := 3) (v := .int .i32 x.off) (by rw [hvs]; rfl)
  have m0 := hb2.ld (i := 0) (v := .int .i32 y.len) (by rw [hus]; rfl)
  have m1 := hb2.ld (i := 1) (v := .int .i8 y.attr) (by rw [hus]; rfl)
  have m2 := hb2.ld (i := 2) (v := .int .i64 y.delta) (by rw [hus]; rfl)
  have m3 := hb2.ld (i := 3) (v := .int .i32 y.off) (by rw [hus]; rfl)
  have e0 : (x.len == y.len) = true := by rw [he.len]; simp
  have e1 : (x.attr == y.attr) = true := by rw [he.attr]; simp
  have e2 : (x.delta == y.delta) = true := by rw [he.delta]; simp
  have e3 : (x.off == y.off) = true := by rw [he.off]; simp
  refine wp_seq_k fun K hK => ?_; refine zac ?_
  (repeat (first | ((with_reducible refine zah ?_ ?_ ?_); (· simp [evb, pvb, rnb, kb, hN, seval, ofR, l0, m0, e0, l1, m1, e1, l2, m2, e2, l3, m3, e3, dyb, sdb] <;> omega); (· kernel_rfl); try simp only [evb, pvb, rnb, kb, hN, seval, ofR, l0, m0, e0, l1, m1, e1, l2, m2, e2, l3, m3, e3]) | ((with_reducible apply zau); (· exact rfl); (· exact rfl); (· simp [evb, pvb, rnb, kb, hN, seval, ofR, l0, m0, e0, l1, m1, e1, l2, m2, e2, l3, m3, e3]; done); try simp only [evb, pvb, rnb, kb, hN, seval, ofR, l0, m0, e0, l1, m1, e1, l2, m2, e2, l3, m3, e3]) | ((with_reducible apply zaD); (· exact rfl); (· exact rfl); (· simp [evb, pvb, rnb, kb, hN, seval, ofR, l0, m0, e0, l1, m1, e1, l2, m2, e2, l3, m3, e3]; done); try simp only [evb, pvb, rnb, kb, hN, seval, ofR, l0, m0, e0, l1, m1, e1, l2, m2, e2, l3, m3, e3]) | ((with_reducible apply zaE); (· exact rfl); (· exact rfl); (· simp [evb, pvb, rnb, kb, hN, seval, ofR, l0, m0, e0, l1, m1, e1, l2, m2, e2, l3, m3, e3]; done); try simp only [evb, pvb, rnb, kb, hN, seval, ofR, l0, m0, e0, l1, m1, e1, l2, m2, e2, l3, m3, e3])))
  refine zay (b := w.heap.size) (o := 4) (n := 2) (by kernel_rfl) (by kernel_rfl) (by simp only [evb, pvb, rnb, kb, hN, seval]) hb12 (by rw [hvs]; simp) ?_
  rw [show (vs.drop 4).take 2 = [.bool x.key.null, .slice k1 x.key.data.length k2] by rw [hvs]; rfl]
  (repeat (first | ((with_reducible refine zah ?_ ?_ ?_); (· simp [evb, pvb, rnb, kb, hN, seval, ofR, dyb, sdb] <;> omega); (· kernel_rfl); try simp only [evb, pvb, rnb, kb, hN, seval, ofR]) | ((with_reducible apply zau); (· exact rfl); (· exact rfl); (· simp [evb, pvb, rnb, kb, hN, seval, ofR]; done); try simp only [evb, pvb, rnb, kb, hN, seval, ofR]) | ((with_reducible apply zaD); (· exact rfl); (· exact rfl); (· simp [evb, pvb, rnb, kb, hN, seval, ofR]; done); try simp only [evb, pvb, rnb, kb, hN, seval, ofR]) | ((with_reducible apply zaE); (· exact rfl); (· exact rfl); (· simp [evb, pvb, rnb, kb, hN, seval, ofR]; done); try simp only [evb, pvb, rnb, kb, hN, seval, ofR])))
  refine zay (b := w1.heap.size) (o := 4) (n := 2) (by kernel_rfl) (by kernel_rfl) (by simp only [evb, pvb, rnb, kb, hN, seval]) hb2 (by rw [hus]; simp) ?_
  rw [show (us.drop 4).take 2 = [.bool y.key.null, .slice j1 y.key.data.length j2] by rw [hus]; rfl]
  (repeat (first | ((with_reducible refine zah ?_ ?_ ?_); (· simp [evb, pvb, rnb, kb, hN, seval, dyb, sdb] <;> omega); (· kernel_rfl); try simp only [evb, pvb, rnb, kb, hN, seval]) | ((with_reducible apply zau); (· exact rfl); (· exact rfl); (· simp [evb, pvb, rnb, kb, hN, seval]; done); try simp only [evb, pvb, rnb, kb, hN, seval]) | ((with_reducible apply zaD); (· exact rfl); (· exact rfl); (· simp [evb, pvb, rnb, kb, hN, seval]; done); try simp only [evb, pvb, rnb, kb, hN, seval]) | ((with_reducible apply zaE); (· exact rfl); (· exact rfl); (· simp [evb, pvb, rnb, kb, hN, seval]; done); try simp only [evb, pvb, rnb, kb, hN, seval])))
  refine zak (fun args w => Tryd.call24 args w) (by simp only [List.map_toArray, List.map_cons, List.map_nil, evb, kb, hN, seval]; exact sameOctets_c (x := x.key) (y := y.key) ⟨k1, k2, rfl, p1, p2.chg hc02 fun _ _ _ h => h⟩ ⟨j1, j2, rfl, r1, r2.chg hc02 fun _ _ _ h => h⟩ he.key hL.1) ?_
  rintro _ w3 ⟨rfl, hc3⟩
  have hc03 := hc02.trans hc3 fun _ _ h => h
  have hb13 := hb12.chg hc3 fun h => h
  have hb23 := hb2.chg hc3 fun h => h
  (repeat (first | ((with_reducible refine zah ?_ ?_ ?_); (· simp [evb, pvb, rnb, kb, hN, seval, ofR, dyb, sdb] <;> omega); (· kernel_rfl); try simp only [evb, pvb, rnb, kb, hN, seval, ofR]) | ((with_reducible apply zau); (· exact rfl); (· exact rfl); (· simp [evb, pvb, rnb, kb, hN, seval, ofR]; done); try simp only [evb, pvb, rnb, kb, hN, seval, ofR]) | ((with_reducible apply zaD); (· exact rfl); (· exact rfl); (· simp [evb, pvb, rnb, kb, hN, seval, ofR]; done); try simp only [evb, pvb, rnb, kb, hN, seval, ofR]) | ((with_reducible apply zaE); (· exact rfl); (· exact rfl); (· simp [evb, pvb, rnb, kb, hN, seval, ofR]; done); try simp only [evb, pvb, rnb, kb, hN, seval, ofR])))
  refine zay (b := w.heap.size) (o := 6) (n := 2) (by kernel_rfl) (by kernel_rfl) (by simp only [evb, pvb, rnb, kb, hN, seval]) hb13 (by rw [hvs]; simp) ?_
  rw [show (vs.drop 6).take 2 = [.bool x.val.null, .slice v1 x.val.data.length v2] by rw [hvs]; rfl]
  (repeat (first | ((with_reducible refine zah ?_ ?_ ?_); (· simp [evb, pvb, rnb, kb, hN, seval, ofR, dyb, sdb] <;> omega); (· kernel_rfl); try simp only [evb, pvb, rnb, kb, hN, seval, ofR]) | ((with_reducible apply zau); (· exact rfl); (· exact rfl); (· simp [evb, pvb, rnb, kb, hN, seval, ofR]; done); try simp only [evb, pvb, rnb, kb, hN, seval, ofR]) | ((with_reducible apply zaD); (· exact rfl); (· exact rfl); (· simp [evb, pvb, rnb, kb, hN, seval, ofR]; done); try simp only [evb, pvb, rnb, kb, hN, seval, ofR]) | ((with_reducible apply zaE); (· exact rfl); (· exact rfl); (· simp [evb, pvb, rnb, kb, hN, seval, ofR]; done); try simp only [evb, pvb, rnb, kb, hN, seval, ofR])))
  refine zay (b := w1.heap.size) (o := 6) (n := 2) (by kernel_rfl) (by kernel_rfl) (by simp only [evb, pvb, rnb, kb, hN, seval]) hb23 (by rw [hus]; simp) ?_
  rw [show (us.drop 6).take 2 = [.bool y.val.null, .slice u1 y.val.data.length u2] by rw [hus]; rfl]
  (repeat (first | ((with_reducible refine zah ?_ ?_ ?_); (· simp [evb, pvb, rnb, kb, hN, seval, dyb, sdb] <;> omega); (· kernel_rfl); try simp only [evb, pvb, rnb, kb, hN, seval]) | ((with_reducible apply zau); (· exact rfl); (· exact rfl); (· simp [evb, pvb, rnb, kb, hN, seval]; done); try simp only [evb, pvb, rnb, kb, hN, seval]) | ((with_reducible apply zaD); (· exact rfl); (· exact rfl); (· simp [evb, pvb, rnb, kb, hN, seval]; done); try simp only [evb, pvb, rnb, kb, hN, seval]) | ((with_reducible apply zaE); (· exact rfl); (· exact rfl); (· simp [evb, pvb, rnb, kb, hN, seval]; done); try simp only [evb, pvb, rnb, kb, hN, seval])))
  refine zak (fun args w => Tryd.call24 args w) (by simp only [List.map_toArray, List.map_cons, List.map_nil, evb, kb, hN, seval]; exact sameOctets_c (x := x.val) (y := y.val) ⟨v1, v2, rfl, p3, p4.chg hc03 fun _ _ _ h => h⟩ ⟨u1, u2, rfl, r3, r4.chg hc03 fun _ _ _ h => h⟩ he.val hL.2) ?_
  rintro _ w4 ⟨rfl, hc4⟩
  have hc04 := hc03.trans hc4 fun _ _ h => h
  have l8 := (hb13.chg hc4 fun h => h).ld (i := 8) (v := .slice oh x.hs.length ch) (by rw [hvs, hvh]; rfl)
  have m8 := (hb23.chg hc4 fun h => h).ld (i := 8) (v := .slice qh y.hs.length dh) (by rw [hus, huh]; rfl)
  (repeat (first | ((with_reducible refine zah ?_ ?_ ?_); (· simp [evb, pvb, rnb, kb, hN, seval, ofR, l8, m8, dyb, sdb] <;> omega); (· kernel_rfl); try simp only [evb, pvb, rnb, kb, hN, seval, ofR, l8, m8]) | ((with_reducible apply zau); (· exact rfl); (· exact rfl); (· simp [evb, pvb, rnb, kb, hN, seval, ofR, l8, m8]; done); try simp only [evb, pvb, rnb, kb, hN, seval, ofR, l8, m8]) | ((with_reducible apply zaD); (· exact rfl); (· exact rfl); (· simp [evb, pvb, rnb, kb, hN, seval, ofR, l8, m8]; done); try simp only [evb, pvb, rnb, kb, hN, seval, ofR, l8, m8]) | ((with_reducible apply zaE); (· exact rfl); (· exact rfl); (· simp [evb, pvb, rnb, kb, hN, seval, ofR, l8, m8]; done); try simp only [evb, pvb, rnb, kb, hN, seval, ofR, l8, m8])))
  rw [hvh] at p5
  rw [huh] at r5
  refine zak (fun args w => Tryd.call25 args w) (by simp only [List.map_toArray, List.map_cons, List.map_nil, evb, kb, hN, seval]; exact sameHeaders_c (p5.stay one_hd (Stay.of hc04 fun _ _ _ h => h)) (r5.stay one_hd (Stay.of hc04 fun _ _ _ h => h)) he.hs hlim hn) ?_
  rintro _ w5 ⟨rfl, hc5⟩
  (repeat (first | ((with_reducible refine zah ?_ ?_ ?_); (· simp [evb, pvb, rnb, kb, hN, seval, dyb, sdb] <;> omega); (· kernel_rfl); try simp only [evb, pvb, rnb, kb, hN, seval]) | ((with_reducible apply zau); (· exact rfl); (· exact rfl); (· simp [evb, pvb, rnb, kb, hN, seval]; done); try simp only [evb, pvb, rnb, kb, hN, seval]) | ((with_reducible apply zaD); (· exact rfl); (· exact rfl); (· simp [evb, pvb, rnb, kb, hN, seval]; done); try simp only [evb, pvb, rnb, kb, hN, seval]) | ((with_reducible apply zaE); (· exact rfl); (· exact rfl); (· simp [evb, pvb, rnb, kb, hN, seval]; done); try simp only [evb, pvb, rnb, kb, hN, seval]))); refine zaa ?_; refine hK _ _ ?_; clear hK K; refine wp_ret ⟨by simp [zab, hD], ?_⟩; simp only [evb, kb, hN, seval]
  exact ⟨by first | rfl | trivial, hc04.trans hc5 fun _ _ h => h⟩
end Go.Proofs.YtojpodeljpfgaaaDoor
namespace Go.Proofs.YtojpodeljpfgaaaDoor
set_option linter.all false
open Go.RowKit
set_option maxRecDepth 10000
set_option maxHeartbeats 4000000
def recB (x : Rc) : Bs := zaN (zaJ x).length ++ zaJ x
def krRd (x : Rc) : Kr := ⟨(zaJ x).length, x.attr, IntKind.i32.wrap x.delta, x.delta, x.off, octO x.key, octO x.val, x.hs.map khOf⟩
theorem rdB_recB (x : Rc) : rdB (krRd x) = recB x := by
  have e2 : (krRd x).hs.flatMap khB = x.hs.flatMap hdB := by
    show (x.hs.map khOf).flatMap khB = _
    rw [List.flatMap_map]
    congr 1
    funext h
    exact khB_of h
  have e3 : (krRd x).hs.length = x.hs.length := List.length_map ..
  unfold rdB recB zaJ preB
  rw [e2, e3]
  show zaN (zaJ x).length ++ (be 1 x.attr ++ (zaN x.delta ++ (zaN x.off ++ (obB (octO x.key) ++ (obB (octO x.val) ++ (zaN x.hs.length ++ x.hs.flatMap hdB)))))) = _
  rw [obB_octO, obB_octO]
  unfold zaJ preB
  simp only [List.append_assoc]
theorem krRd_L {x : Rc} (h : RcL x) (h1000 : x.hs.length ≤ 1000) : KrL (krRd x) :=
  ⟨Nat.le_trans (obL_octO _) h.key, Nat.le_trans (obL_octO _) h.val, by show (x.hs.map khOf).length ≤ 1000; rw [List.length_map]; exact h1000, fun k hk => by
    obtain ⟨y, hy, rfl⟩ := List.mem_map.1 hk
    exact ⟨(h.hk y hy).1, Nat.le_trans (obL_octO _) (h.hk y hy).2⟩⟩
theorem krRd_R {x : Rc} (h : RcR x) (hr : (zaJ x).length ≤ 131072) : KrR (krRd x) := by
  obtain ⟨h1, h2, h3, h4⟩ := h
  refine ⟨by show _ ≤ ((zaJ x).length : Int) ∧ ((zaJ x).length : Int) < _; omega, h2, ?_, h3, h4⟩
  show -2147483648 ≤ IntKind.i32.wrap x.delta ∧ IntKind.i32.wrap x.delta < 2147483648
  rw [i32_wrap]; unfold wrap32i; omega
theorem octO_octOf (o : Option Bs) : octO (zaP o) = o := by cases o <;> rfl
theorem backOf_E (x : Rc) : RcE (backOf (krRd x)) (meas x) := ⟨rfl, rfl, rfl, rfl, octO_octOf _, octO_octOf _, by
  show ((x.hs.map khOf).map hdOf).map hdK = x.hs.map hdK
  rw [List.map_map, List.map_map]
  congr 1
  funext h
  show (h.key, octO (zaP (octO h.val))) = (h.key, octO h.val)
  rw [octO_octOf]⟩
theorem meas_L {x : Rc} (h : RcL x) : RcL (meas x) := ⟨h.key, h.val, h.hs, h.hk⟩
theorem little_out {x : Rc} (h : littleB x = true) : x.hs.length ≤ 1000 ∧ (zaJ x).length ≤ 131072 := by
  unfold littleB at h
  simp only [Bool.and_eq_true, decide_eq_true_eq] at h
  exact h
theorem recB_len {x : Rc} (h : littleB x = true) : (recB x).length ≤ 131082 := by
  have := (little_out h).2
  have h1 := zaC (zaJ x).length
  unfold recB
  rw [List.length_append]; omega
theorem ex3 : (∀ x y z : Value, exV (.tuple #[x, y, z]) 0 = x) ∧ (∀ x y z : Value, exV (.tuple #[x, y, z]) 1 = y) ∧ (∀ x y z : Value, exV (.tuple #[x, y, z]) 2 = z) ∧ (∀ x y z : Value, exOK (.tuple #[x, y, z]) 0 = true) ∧ (∀ x y z : Value, exOK (.tuple #[x, y, z]) 1 = true) ∧ (∀ x y z : Value, exOK (.tuple #[x, y, z]) 2 = true) := ⟨fun _ _ _ => rfl, fun _ _ _ => rfl, fun _ _ _ => rfl, fun _ _ _ => rfl, fun _ _ _ => rfl, fun _ _ _ => rfl⟩
theorem law_c {w : World} {G : Nat → Prop} {B : Bt} (q : BtR B) {oB : Option Addr} {nB cB : Nat} {l : List Rc} {v : Value} (hl : LsS 9 RcC w G l v) (hL : ∀ x ∈ l, RcL x) (hn : l.length ≤ 4611686018427387904) :
    zan Tryd.prog 3 #[zax (btV B (.slice oB nB cB)), v] w fun r w' => r = .bool true ∧ Chg (fun _ => False) w w' := by
  obtain ⟨ol, cl, rfl, hcl, hrow⟩ := hl
  have hl0 : LsS 9 RcC w G l (.slice ol l.length cl) := ⟨ol, cl, rfl, hcl, hrow⟩
  refine zaj Tryd.func3 rfl rfl Tryd.ntmps3 (by simp) ?_
  intro a hN hD hargs
  have h0 : get a 0 = zax (btV B (.slice oB nB cB)) := hargs 0 _ rfl
  have h1 : get a 1 = .slice ol l.length cl := hargs 1 _ rfl
  refine wp_seq_k fun K hK => ?_; refine zac ?_
  refine zaQ (l := btV B (.slice oB nB cB)) (by simp [evb, kb, hN, h0, sdb]) fun w1 hc1 hb1 hs1 => ?_
  (repeat ((with_reducible refine zah ?_ ?_ ?_); (· simp [evb, pvb, rnb, kb, hN, dyb, sdb] <;> omega); (· kernel_rfl); try simp only [evb, pvb, rnb, kb, hN, seval])); refine zaa ?_; refine hK _ _ ?_; clear hK K
  generalize hbk : w.heap.size = bk at *
  have hbkl : bk < w1.heap.size := by omega
  refine wp_seq_k fun K hK => ?_; refine wp_seq_k fun K1 hK1 => ?_; refine zac ?_
  refine zay (b := bk) (o := 0) (n := 14) (by kernel_rfl) (by kernel_rfl) (by simp only [evb, pvb, rnb, kb, hN, seval]) hb1 (by show 0 + 14 ≤ 14; omega) ?_
  rw [show ((btV B (.slice oB nB cB)).drop 0).take 14 = btV B (.slice oB nB cB) from rfl]
  refine zak (fun args w => Tryd.call4 args w) (by simp only [List.map_toArray, List.map_cons, List.map_nil, evb, kb, hN, seval]; exact fits11_c rfl) ?_
  rintro _ w2 ⟨⟨f1, rfl⟩, hc2⟩
  have hc02 := hc1.trans hc2 fun _ _ h => h
  have hb2 := hb1.chg hc2 fun h => h
  cases f1 with
  | false =>
    (repeat (first | ((with_reducible refine zah ?_ ?_ ?_); (· simp [evb, pvb, rnb, kb, hN, seval, dyb, sdb] <;> omega); (· kernel_rfl); try simp only [evb, pvb, rnb, kb, hN, seval]) | ((with_reducible apply zau); (· exact rfl); (· exact rfl); (· simp [evb, pvb, rnb, kb, hN, seval]; done); try simp only [evb, pvb, rnb, kb, hN, seval]) | ((with_reducible apply zaD); (· exact rfl); (· exact rfl); (· simp [evb, pvb, rnb, kb, hN, seval]; done); try simp only [evb, pvb, rnb, kb, hN, seval]) | ((with_reducible apply zaE); (· exact rfl); (· exact rfl); (· simp [evb, pvb, rnb, kb, hN, seval]; done); try simp only [evb, pvb, rnb, kb, hN, seval])))
    refine zaa ?_; refine hK1 _ _ ?_; try clear hK1 K1
    refine wp_cond_true (by simp [evb, kb, hN, sdb]) ?_
    refine wp_seq_k fun K hK => ?_; refine zac ?_; (repeat ((with_reducible refine zah ?_ ?_ ?_); (· simp [evb, pvb, rnb, kb, hN, dyb, sdb] <;> omega); (· kernel_rfl); try simp only [evb, pvb, rnb, kb, hN, seval])); refine zaa ?_; refine hK _ _ ?_; clear hK K; refine wp_ret ⟨by simp [zab, hD], ?_⟩; simp only [evb, kb, hN, seval]
    exact ⟨by first | rfl | trivial, hc02⟩
  | true =>
  (repeat (first | ((with_reducible refine zah ?_ ?_ ?_); (· simp [evb, pvb, rnb, kb, hN, seval, h1, dyb, sdb] <;> omega); (· kernel_rfl); try simp only [evb, pvb, rnb, kb, hN, seval, h1]) | ((with_reducible apply zau); (· exact rfl); (· exact rfl); (· simp [evb, pvb, rnb, kb, hN, seval, h1]; done); try simp only [evb, pvb, rnb, kb, hN, seval, h1]) | ((with_reducible apply zaD); (· exact rfl); (· exact rfl); (· simp [evb, pvb, rnb, kb, hN, seval, h1]; done); try simp only [evb, pvb, rnb, kb, hN, seval, h1]) | ((with_reducible apply zaE); (· exact rfl); (· exact rfl); (· simp [evb, pvb, rnb, kb, hN, seval, h1]; done); try simp only [evb, pvb, rnb, kb, hN, seval, h1])))
  refine zak (fun args w => Tryd.call5 args w) (by simp only [List.map_toArray, List.map_cons, List.map_nil, evb, kb, hN, seval]; exact fits12_c (hl0.stay one_rc (Stay.of hc02 fun _ _ _ h => h)) hn fun x hx => Nat.le_trans (hL x hx).hs (by decide)) ?_
  rintro _ w3 ⟨⟨f2, rfl⟩, hc3⟩
  have hc03 := hc02.trans hc3 fun _ _ h => h
  have hb3 := hb2.chg hc3 fun h => h
  cases f2 with
  | false =>
    (repeat (first | ((with_reducible refine zah ?_ ?_ ?_); (· simp [evb, pvb, rnb, kb, hN, seval, dyb, sdb] <;> omega); (· kernel_rfl); try simp only [evb, pvb, rnb, kb, hN, seval]) | ((with_reducible apply zau); (· exact rfl); (· exact rfl); (· simp [evb, pvb, rnb, kb, hN, seval]; done); try simp only [evb, pvb, rnb, kb, hN, seval]) | ((with_reducible apply zaD); (· exact rfl); (· exact rfl); (· simp [evb, pvb, rnb, kb, hN, seval]; done); try simp only [evb, pvb, rnb, kb, hN, seval]) | ((with_reducible apply zaE); (· exact rfl); (· exact rfl); (· simp [evb, pvb, rnb, kb, hN, seval]; done); try simp only [evb, pvb, rnb, kb, hN, seval])))
    refine zaa ?_; refine hK1 _ _ ?_; try clear hK1 K1
    refine wp_cond_true (by simp [evb, kb, hN, sdb]) ?_
    refine wp_seq_k fun K hK => ?_; refine zac ?_; (repeat ((with_reducible refine zah ?_ ?_ ?_); (· simp [evb, pvb, rnb, kb, hN, dyb, sdb] <;> omega); (· kernel_rfl); try simp only [evb, pvb, rnb, kb, hN, seval])); refine zaa ?_; refine hK _ _ ?_; clear hK K; refine wp_ret ⟨by simp [zab, hD], ?_⟩; simp only [evb, kb, hN, seval]
    exact ⟨by first | rfl | trivial, hc03⟩
  | true =>
  (repeat (first | ((with_reducible refine zah ?_ ?_ ?_); (· simp [evb, pvb, rnb, kb, hN, seval, dyb, sdb] <;> omega); (· kernel_rfl); try simp only [evb, pvb, rnb, kb, hN, seval]) | ((with_reducible apply zau); (· exact rfl); (· exact rfl); (· simp [evb, pvb, rnb, kb, hN, seval]; done); try simp only [evb, pvb, rnb, kb, hN, seval]) | ((with_reducible apply zaD); (· exact rfl); (· exact rfl); (· simp [evb, pvb, rnb, kb, hN, seval]; done); try simp only [evb, pvb, rnb, kb, hN, seval]) | ((with_reducible apply zaE); (· exact rfl); (· exact rfl); (· simp [evb, pvb, rnb, kb, hN, seval]; done); try simp only [evb, pvb, rnb, kb, hN, seval])))
  refine zaa ?_; refine hK1 _ _ ?_; try clear hK1 K1
  refine wp_cond_false (by simp [evb, kb, hN, sdb]) ?_
  refine wp_skip (hK _ _ ?_)
  clear hK K
  refine wp_seq_k fun K hK => ?_; refine wp_seq_k fun K1 hK1 => ?_; refine zac ?_; (repeat ((with_reducible refine zah ?_ ?_ ?_); (· simp [evb, pvb, rnb, kb, hN, h1, dyb, sdb] <;> omega); (· kernel_rfl); try simp only [evb, pvb, rnb, kb, hN, seval, h1])); refine zaa ?_; refine hK1 _ _ ?_; try clear hK1 K1
  by_cases h60 : 60 < l.length
  · have d : decide ((60 : Int) < (l.length : Int)) = true := decide_eq_true (by omega)
    refine wp_cond_true (by simp only [evb, pvb, rnb, kb, hN, seval, d]) ?_
    refine wp_seq_k fun K hK => ?_; refine zac ?_; (repeat ((with_reducible refine zah ?_ ?_ ?_); (· simp [evb, pvb, rnb, kb, hN, dyb, sdb] <;> omega); (· kernel_rfl); try simp only [evb, pvb, rnb, kb, hN, seval])); refine zaa ?_; refine hK _ _ ?_; clear hK K; refine wp_ret ⟨by simp [zab, hD], ?_⟩; simp only [evb, kb, hN, seval]
    exact ⟨by first | rfl | trivial, hc03⟩
  have d : decide ((60 : Int) < (l.length : Int)) = false := decide_eq_false (by omega)
  refine wp_cond_false (by simp only [evb, pvb, rnb, kb, hN, seval, d]) ?_
  refine wp_skip (hK _ _ ?_)
  clear hK K d
  refine wp_seq_k fun K hK => ?_; refine zac ?_; (repeat ((with_reducible refine zah ?_ ?_ ?_); (· simp [evb, pvb, rnb, kb, hN, ofB, dyb, sdb] <;> omega); (· kernel_rfl); try simp only [evb, pvb, rnb, kb, hN, seval, ofB]))
  refine zap (b := bk) (o := 13) (n := 1) (v := .slice none 0 0) (by kernel_rfl) (by simp only [evb, pvb, rnb, kb, hN, seval]) (by simp only [evb, pvb, rnb, kb, hN, seval]) hb3 rfl (by intro y hy; simp only [Value.cells, List.mem_singleton] at hy; subst hy; rfl) (by show 13 + 1 ≤ 14; omega) fun w4 hb4 hc4 => ?_
  refine zaa ?_; refine hK _ _ ?_; clear hK K
  have hc04 : Chg (fun _ => False) w w4 := hc03.trans hc4 fun n hn h => by omega
  replace hb4 : Blk w4 bk (btV B (.slice none 0 0)) _ := hb4
  have hs4 := hc4.size
  have hs03 := hc03.size
  have hs13 : w1.heap.size ≤ w3.heap.size := (hc2.trans hc3 fun _ _ h => h).size
  refine zaw fun a1 ha => ?_
  have hN' : a1.tmps.size = 128 := by rw [ha]; simp only [zaf]; exact hN
  have hD' : a1.defers = [] := by rw [ha]; simp only [zab]; exact hD
  have g1 : get a1 1 = .slice ol l.length cl := by rw [ha]; simp only [evb, pvb, rnb, kb, hN, seval, h1]
  have g2 : get a1 2 = .pointer (some ⟨bk, 0, none⟩) := by rw [ha]; simp only [evb, pvb, rnb, kb, hN, seval]
  clear ha hN hD h0 h1 hargs hb1 hb2 hb3
  have hN := hN'
  have hD := hD'
  clear hN' hD'
  refine wp_seq_k fun K hK => ?_; refine wp_seq_k fun K1 hK1 => ?_; refine zac ?_; (repeat ((with_reducible refine zah ?_ ?_ ?_); (· simp [evb, pvb, rnb, kb, hN, g1, dyb, sdb] <;> omega); (· kernel_rfl); try simp only [evb, pvb, rnb, kb, hN, seval, g1])); refine zaa ?_; refine hK1 _ _ ?_; try clear hK1 K1
  refine wp_range (n := l.length) (fun i a' w' => ∃ u : Value, a'.tmps.size = 128 ∧ a'.defers = [] ∧ get a' 1 = .slice ol l.length cl ∧ get a' 2 = .pointer (some ⟨bk, 0, none⟩) ∧ get a' 29 = .slice ol l.length cl ∧
      Blk w' bk (btV B u) 26 ∧ Own eB w' w4.heap.size u ((l.take i).flatMap recB) ∧ ((l.take i).flatMap recB).length ≤ 262154 ∧ (∀ x ∈ l.take i, littleB x = true) ∧ Chg (fun k => k = bk) w4 w') 128 hn
    (by simp only [evb, kb, hN, seval]; try rfl) (by simp only [evb, kb, hN, seval]) ⟨.slice none 0 0, by simp only [zaf, hN], by simp only [zab, hD], by simp only [evb, pvb, rnb, kb, hN, seval, g1], by simp only [evb, pvb, rnb, kb, hN, seval, g2], by simp only [evb, pvb, rnb, kb, hN, seval, g1], hb4, Own.nil _ _ _, by simp, by simp, Chg.refl _ _⟩ ?_ ?_ (by decide) ?_ ?_
  · rintro i a w ⟨_, h, _⟩; exact h
  · rintro i a w t v ht ⟨u, k1, k2, k3, k4, k5, k6⟩
    rcases ht with rfl | rfl | rfl <;> exact ⟨u, by rw [zaf]; exact k1, by rw [zab]; exact k2, by rw [zaq (by decide)]; exact k3, by rw [zaq (by decide)]; exact k4, by rw [zaq (by decide)]; exact k5, k6⟩
  · clear hN hD g1 g2 hb4
    rintro i a2 w5 hi ⟨u, hN, hD, g1, g2, g29, hbb, hown, hal, hlit, hc5⟩ g30 g31
    have hx : l[i]? = some l[i] := by simp [hi]
    have hxL := hL l[i] (List.getElem_mem hi)
    generalize l[i] = x at hx hxL
    rcases hrow with rfl | ⟨b, o, cs, T, rfl, hGb, hb, htl⟩
    · simp at hi
    obtain ⟨hcx, hlx⟩ := htl.get one_rc hx
    have hc05 : Chg (fun _ => False) w w5 := hc04.trans hc5 fun n hn h => by omega
    have hb5 : Rbk w5 b cs T := hb.chg hc05 (fun h => h)
    rw [List.length_drop] at hlx
    rw [List.drop_drop] at hcx
    have hlen := one_rc.len hcx
    have hcell := one_rc.cell hcx
    have hs5 := hc5.size
    refine wp_seq_k fun K3 hK3 => ?_; refine zac ?_
    refine wl_indexAddr (b := b) (o := o) (k := .i64) (i := i) (n := 9) (len := l.length) (cap := cl) (by kernel_rfl) (by simp [evb, kb, hN, g29, sdb]) (by simp [evb, kb, hN, g31, sdb]) hi ?_
    refine wl_loadAgg_r (b := b) (o := o + i * 9) (n := 9) (by kernel_rfl) (by kernel_rfl) (by simp [evb, kb, hN, sdb]) hb5 (by omega) ?_
    generalize (cs.drop (o + i * 9)).take 9 = vx at hcx hlen hcell
    refine zaH (z := zax [.int .i32 0, .int .i8 0, .int .i64 0, .int .i32 0, .bool false, .slice none 0 0, .bool false, .slice none 0 0, .slice none 0 0]) (fun w => Tryd.zeroValue34 w) fun w6 hc6 hb6 hs6 => ?_
    refine zaA (b := w5.heap.size) (n := 9) (l' := vx) (by kernel_rfl) (by simp [evb, kb, hN, sdb]) (by simp [evb, kb, hN, sdb]; rfl) hb6 hlen hcell rfl fun w7 hb7 hc7 => ?_
    refine zaa ?_; refine hK3 _ _ ?_; try clear hK3 K3
    have hc57 : Chg (fun _ => False) w5 w7 := hc6.trans hc7 fun n hn h => by omega
    have hc07 := hc05.trans hc57 fun _ _ h => h
    have hs57 := hc57.size
    have hx7 := one_rc.stay (Stay.of hc07 fun _ _ _ h => h) hcx
    refine wp_seq_k fun K3 hK3 => ?_; refine wp_seq_k fun K4 hK4 => ?_; refine zac ?_
    refine zay (b := w5.heap.size) (o := 0) (n := 9) (by kernel_rfl) (by kernel_rfl) (by simp [evb, kb, hN, sdb]) hb7 (by omega) ?_
    rw [List.drop_zero, List.take_of_length_le (show vx.length ≤ 9 by omega)]
    refine zak (fun args w => Tryd.call6 args w) (by simp only [List.map_toArray, List.map_cons, List.map_nil, evb, kb, hN, seval]; exact little_c hx7 hxL) ?_
    rintro _ w8 ⟨rfl, hc8⟩
    have hc58 := hc57.trans hc8 fun _ _ h => h
    have hc08 := hc05.trans hc58 fun _ _ h => h
    have hbb8 := hbb.chg hc58 fun h => h
    have hown8 := hown.chg hc58 fun _ _ h => h
    have hb78 := hb7.chg hc8 fun h => h
    obtain ⟨ou, cu, rfl, hcu, hbu⟩ := own_at hown8
    have l13 := hbb8.ld (i := 13) (v := .slice ou ((l.take i).flatMap recB).length cu) rfl
    cases hli : littleB x with
    | false =>
      (repeat (first | ((with_reducible refine zah ?_ ?_ ?_); (· simp [evb, pvb, rnb, kb, hN, seval, hli, dyb, sdb] <;> omega); (· kernel_rfl); try simp only [evb, pvb, rnb, kb, hN, seval, hli]) | ((with_reducible apply zau); (· exact rfl); (· exact rfl); (· simp [evb, pvb, rnb, kb, hN, seval, hli]; done); try simp only [evb, pvb, rnb, kb, hN, seval, hli]) | ((with_reducible apply zaD); (· exact rfl); (· exact rfl); (· simp [evb, pvb, rnb, kb, hN, seval, hli]; done); try simp only [evb, pvb, rnb, kb, hN, seval, hli]) | ((with_reducible apply zaE); (· exact rfl); (· exact rfl); (· simp [evb, pvb, rnb, kb, hN, seval, hli]; done); try simp only [evb, pvb, rnb, kb, hN, seval, hli])))
      refine zaa ?_; refine hK4 _ _ ?_; try clear hK4 K4
      refine wp_cond_true (by simp [evb, kb, hN, sdb]) ?_
      refine wp_seq_k fun K3 hK3 => ?_; refine zac ?_; (repeat ((with_reducible refine zah ?_ ?_ ?_); (· simp [evb, pvb, rnb, kb, hN, dyb, sdb] <;> omega); (· kernel_rfl); try simp only [evb, pvb, rnb, kb, hN, seval])); refine zaa ?_; refine hK3 _ _ ?_; try clear hK3 K3; refine wp_ret ⟨by simp [zab, hD], ?_⟩; simp only [evb, kb, hN, seval]
      exact ⟨by first | rfl | trivial, hc08⟩
    | true =>
    obtain ⟨hx1000, hxr⟩ := little_out hli
    by_cases hbig : 131072 < ((l.take i).flatMap recB).length
    · have d : decide ((131072 : Int) < (((l.take i).flatMap recB).length : Int)) = true := decide_eq_true (by omega)
      (repeat (first | ((with_reducible refine zah ?_ ?_ ?_); (· simp [evb, pvb, rnb, kb, hN, seval, hli, g2, ofB, l13, d, dyb, sdb] <;> omega); (· kernel_rfl); try simp only [evb, pvb, rnb, kb, hN, seval, hli, g2, ofB, l13, d]) | ((with_reducible apply zau); (· exact rfl); (· exact rfl); (· simp [evb, pvb, rnb, kb, hN, seval, hli, g2, ofB, l13, d]; done); try simp only [evb, pvb, rnb, kb, hN, seval, hli, g2, ofB, l13, d]) | ((with_reducible apply zaD); (· exact rfl); (· exact rfl); (· simp [evb, pvb, rnb, kb, hN, seval, hli, g2, ofB, l13, d]; done); try simp only [evb, pvb, rnb, kb, hN, seval, hli, g2, ofB, l13, d]) | ((with_reducible apply zaE); (· exact rfl); (· exact rfl); (· simp [evb, pvb, rnb, kb, hN, seval, hli, g2, ofB, l13, d]; done); try simp only [evb, pvb, rnb, kb, hN, seval, hli, g2, ofB, l13, d])))
      refine zaa ?_; refine hK4 _ _ ?_; try clear hK4 K4
      refine wp_cond_true (by simp [evb, kb, hN, sdb]) ?_
      refine wp_seq_k fun K3 hK3 => ?_; refine zac ?_; (repeat ((with_reducible refine zah ?_ ?_ ?_); (· simp [evb, pvb, rnb, kb, hN, dyb, sdb] <;> omega); (· kernel_rfl); try simp only [evb, pvb, rnb, kb, hN, seval])); refine zaa ?_; refine hK3 _ _ ?_; try clear hK3 K3; refine wp_ret ⟨by simp [zab, hD], ?_⟩; simp only [evb, kb, hN, seval]
      exact ⟨by first | rfl | trivial, hc08⟩
    have d : decide ((131072 : Int) < (((l.take i).flatMap recB).length : Int)) = false := decide_eq_false (by omega)
    (repeat (first | ((with_reducible refine zah ?_ ?_ ?_); (· simp [evb, pvb, rnb, kb, hN, seval, hli, g2, ofB, l13, d, dyb, sdb] <;> omega); (· kernel_rfl); try simp only [evb, pvb, rnb, kb, hN, seval, hli, g2, ofB, l13, d]) | ((with_reducible apply zau); (· exact rfl); (· exact rfl); (· simp [evb, pvb, rnb, kb, hN, seval, hli, g2, ofB, l13, d]; done); try simp only [evb, pvb, rnb, kb, hN, seval, hli, g2, ofB, l13, d]) | ((with_reducible apply zaD); (· exact rfl); (· exact rfl); (· simp [evb, pvb, rnb, kb, hN, seval, hli, g2, ofB, l13, d]; done); try simp only [evb, pvb, rnb, kb, hN, seval, hli, g2, ofB, l13, d]) | ((with_reducible apply zaE); (· exact rfl); (· exact rfl); (· simp [evb, pvb, rnb, kb, hN, seval, hli, g2, ofB, l13, d]; done); try simp only [evb, pvb, rnb, kb, hN, seval, hli, g2, ofB, l13, d])))
    refine zaa ?_; refine hK4 _ _ ?_; try clear hK4 K4
    refine wp_cond_false (by simp [evb, kb, hN, sdb]) ?_
    refine wp_skip ?_
    refine hK3 _ _ ?_; try clear hK3 K3
    have hx8 := one_rc.stay (Stay.of hc08 fun _ _ _ h => h) hcx
    refine wp_schedK (fun w' => Chg (fun _ => False) w8 w') [(true, 0), (true, 1), (true, 2), (false, 3), (false, 4), (true, 5)] 6 zaz (by kernel_rfl) (by kernel_rfl) (Chg.drew _ _) ?_
    (repeat (first | (refine ws_pX rfl ?_ ?_ ?_; (· simp [evb, pvb, rnb, kb, hN, seval, g2, ofB, l13, dyb, sdb] <;> omega); (· kernel_rfl); try simp only [evb, pvb, rnb, kb, hN, seval, g2, ofB, l13]) | (refine ws_pgX rfl rfl rfl ?_ ?_ ?_ ?_; (· simp [evb, pvb, rnb, kb, hN, seval, g2, ofB, l13]; done); (· simp [evb, pvb, rnb, kb, hN, seval, g2, ofB, l13, dyb, sdb] <;> omega); (· kernel_rfl); try simp only [evb, pvb, rnb, kb, hN, seval, g2, ofB, l13]) | (refine ws_gnoX rfl rfl rfl ?_ ?_; (· simp [evb, pvb, rnb, kb, hN, seval, g2, ofB, l13]; done); try simp only [evb, pvb, rnb, kb, hN, seval, g2, ofB, l13])))
    refine ws_aggX (b := w5.heap.size) (o := 0) (n := 9) (by kernel_rfl) (by kernel_rfl) rfl (by simp [evb, kb, hN, sdb]) hb78 (by omega) ?_
    rw [List.drop_zero, List.take_of_length_le (show vx.length ≤ 9 by omega)]
    have hcd : Chg (fun _ => False) w8 w8.drew := Chg.drew _ _
    refine ws_call (fun args w => Tryd.call8 args w) rfl (by simp only [List.map_toArray, List.map_cons, List.map_nil, evb, kb, hN, seval]; exact measured_c (one_rc.stay (Stay.of hcd fun _ _ _ h => h) hx8) hxL hx1000) ?_
    rintro _ w9 ⟨vm, rfl, hm9, hc9⟩
    have hc89 := hcd.trans hc9 fun _ _ h => h
    refine ⟨hc89, ?_⟩
    refine ws_call (fun args w => Tryd.call7 args w) rfl (by simp only [List.map_toArray, List.map_cons, List.map_nil, evb, kb, hN, seval]; exact makeRecord_c (hbu.chg hc89 fun _ _ _ h => h) hm9 (meas_L hxL) hx1000 (by omega)) ?_
    rintro v10 w10 ⟨ho10, hc10⟩
    have hc810 := hc89.trans hc10 fun _ _ h => h
    refine ⟨hc810, ?_⟩
    (repeat (first | (refine ws_pX rfl ?_ ?_ ?_; (· simp [evb, pvb, rnb, kb, hN, seval, g2, ofB, dyb, sdb] <;> omega); (· kernel_rfl); try simp only [evb, pvb, rnb, kb, hN, seval, g2, ofB]) | (refine ws_pgX rfl rfl rfl ?_ ?_ ?_ ?_; (· simp [evb, pvb, rnb, kb, hN, seval, g2, ofB]; done); (· simp [evb, pvb, rnb, kb, hN, seval, g2, ofB, dyb, sdb] <;> omega); (· kernel_rfl); try simp only [evb, pvb, rnb, kb, hN, seval, g2, ofB]) | (refine ws_gnoX rfl rfl rfl ?_ ?_; (· simp [evb, pvb, rnb, kb, hN, seval, g2, ofB]; done); try simp only [evb, pvb, rnb, kb, hN, seval, g2, ofB])))
    refine ws_nil ⟨_, rfl, ?_⟩
    have er : (l.take i).flatMap recB ++ (zaN (meas x).len ++ zaJ (meas x)) = (l.take i).flatMap recB ++ recB x := rfl
    rw [er] at ho10
    obtain ⟨o10, c10, rfl, _, _⟩ := own_at ho10
    refine zap (b := bk) (o := 13) (n := 1) (v := .slice o10 ((l.take i).flatMap recB ++ recB x).length c10) (by kernel_rfl) (by simp only [evb, pvb, rnb, kb, hN, seval]) (by simp only [evb, pvb, rnb, kb, hN, seval]) (hbb8.chg hc810 fun h => h) rfl (by intro y hy; simp only [Value.cells, List.mem_singleton] at hy; subst hy; rfl) (by show 13 + 1 ≤ 14; omega) fun w11 hb11 hc11 => ?_
    refine zaa ?_
    have hrl := recB_len hli
    have hs8 := hc58.size
    have hs89 := hc89.size
    have et : (l.take (i + 1)).flatMap recB = (l.take i).flatMap recB ++ recB x := by
      rw [List.take_succ, hx, Option.toList_some, List.flatMap_append, List.flatMap_cons, List.flatMap_nil, List.append_nil]
    refine ⟨⟨_, by simp only [zaf, hN], by simp only [zab, hD], by simp only [evb, kb, hN, seval, g1], by simp only [evb, kb, hN, seval, g2], by simp only [evb, kb, hN, seval, g29], hb11, ?_, ?_, ?_, ?_⟩, by simp only [evb, kb, hN, seval, g30], by simp only [evb, kb, hN, seval, g31]⟩
    · rw [et]
      exact (ho10.mono (by omega)).chg hc11 fun k hk e => by have := (ho10.lt k hk).1; omega
    · rw [et, List.length_append]; omega
    · intro z hz
      rw [List.take_succ, hx, Option.toList_some, List.mem_append] at hz
      rcases hz with hz | hz
      · exact hlit z hz
      · obtain rfl : z = x := by simpa using hz
        exact hli
    · exact ((hc5.trans (hc58.mono fun _ _ h => h.elim) fun _ _ h => h).trans (hc810.mono fun _ _ h => h.elim) fun _ _ h => h).trans hc11 fun _ _ h => h
  clear hN hD g1 g2 hb4
  rintro a2 w5 ⟨u, hN, hD, g1, g2, -, hbb, hown, hal, hlit, hc5⟩
  refine hK _ _ ?_
  clear hK K
  rw [List.take_length] at hown hal hlit
  generalize hacc : l.flatMap recB = acc at hown hal
  obtain ⟨ou, cu, rfl, hcu, hbu⟩ := own_at hown
  have hc05 : Chg (fun _ => False) w w5 := hc04.trans hc5 fun n hn h => by omega
  have hs5 := hc5.size
  have hB0 : BtC w5 (fun g => w4.heap.size ≤ g) { B with recs := acc } (btV B (.slice ou acc.length cu)) := ⟨ou, cu, rfl, hcu, hbu, { q with }⟩
  refine wp_seq_k fun K hK => ?_; refine zac ?_
  refine zay (b := bk) (o := 0) (n := 14) (by kernel_rfl) (by kernel_rfl) (by simp only [evb, pvb, rnb, kb, hN, seval, g2]) hbb (by show 0 + 14 ≤ 14; omega) ?_
  rw [show ((btV B (.slice ou acc.length cu)).drop 0).take 14 = btV B (.slice ou acc.length cu) from rfl]
  refine zak (fun args w => Tryd.call9 args w) (by simp only [List.map_toArray, List.map_cons, List.map_nil, evb, kb, hN, seval]; exact whole_c hB0 (by show acc.length ≤ _; omega)) ?_
  rintro _ w6 ⟨vw, rfl, hw6, hc6⟩
  refine zaA (b := bk) (n := 14) (l' := vw) (by kernel_rfl) (by simp only [evb, pvb, rnb, kb, hN, seval, g2]) (by simp only [evb, pvb, rnb, kb, hN, seval]; try rfl) (hbb.chg hc6 fun h => h) (one_bt.len hw6) (one_bt.cell hw6) rfl fun w7 hb7 hc7 => ?_
  refine zaa ?_; refine hK _ _ ?_; clear hK K
  have hc57 : Chg (fun k => k = bk) w5 w7 := (hc6.mono fun _ _ h => h.elim).trans hc7 fun _ _ h => h
  have hs57 := hc57.size
  have hw7 := one_bt.stay (Stay.of hc7 fun k (hk : w4.heap.size ≤ k) _ e => by omega) hw6
  obtain ⟨o7, c7, hv7, hcp7, hb7', hR7⟩ := hw7
  have hc07 : Chg (fun _ => False) w w7 := hc05.trans hc57 fun n hn h => by omega
  have hin : IntKind.i32.wrap (l.length : Int) = l.length := i32_sm (by omega)
  refine wp_seq_k fun K hK => ?_; refine zac ?_; (repeat ((with_reducible refine zah ?_ ?_ ?_); (· simp [evb, pvb, rnb, kb, hN, g1, g2, ofB, hin, dyb, sdb] <;> omega); (· kernel_rfl); try simp only [evb, pvb, rnb, kb, hN, seval, g1, g2, ofB, hin]))
  refine zap (b := bk) (o := 12) (n := 1) (v := .int .i32 l.length) (by kernel_rfl) (by simp only [evb, pvb, rnb, kb, hN, seval]) (by simp only [evb, pvb, rnb, kb, hN, seval]) hb7 rfl (by intro y hy; simp only [Value.cells, List.mem_singleton] at hy; subst hy; rfl) (by rw [hv7]; show 12 + 1 ≤ 14; omega) fun w8 hb8 hc8 => ?_
  refine zaa ?_; refine hK _ _ ?_; clear hK K
  obtain ⟨b1, hb1⟩ : ∃ b1 : Bt, b1 = { whole { B with recs := acc } with many := l.length } := ⟨_, rfl⟩
  have e8 : zaM vw 12 (Value.int .i32 l.length).cells.toList = btV b1 (.slice o7 b1.recs.length c7) := by rw [hv7, hb1]; rfl
  rw [e8] at hb8
  have hr1 : b1.recs = acc := by rw [hb1]; rfl
  have hl1 : b1.len = 49 + b1.recs.length := by rw [hr1, hb1]; rfl
  have hm1 : b1.many = l.length := by rw [hb1]
  have hR1 : BtR b1 := by rw [hb1]; exact { hR7 with many := by show _ ≤ (l.length : Int) ∧ (l.length : Int) < _; omega }
  have hc58 : Chg (fun k => k = bk) w5 w8 := hc57.trans hc8 fun _ _ h => h
  have hs58 := hc58.size
  have hc08 : Chg (fun _ => False) w w8 := hc05.trans hc58 fun n hn h => by omega
  have hB1 : BtC w8 (fun g => w4.heap.size ≤ g) b1 (btV b1 (.slice o7 b1.recs.length c7)) := ⟨o7, c7, rfl, by rw [hr1]; exact hcp7, by rw [hr1]; exact hb7'.chg hc8 fun g (hg : w4.heap.size ≤ g) _ e => by omega, hR1⟩
  refine wp_seq_k fun K hK => ?_; refine zac ?_
  refine zay (b := bk) (o := 0) (n := 14) (by kernel_rfl) (by kernel_rfl) (by simp only [evb, pvb, rnb, kb, hN, seval, g2]) hb8 (by show 0 + 14 ≤ 14; omega) ?_
  rw [show ((btV b1 (.slice o7 b1.recs.length c7)).drop 0).take 14 = btV b1 (.slice o7 b1.recs.length c7) from rfl]
  have hbl := batB_len b1
  refine zak (fun args w => Tryd.call11 args w) (by simp only [List.map_toArray, List.map_cons, List.map_nil, evb, kb, hN, seval]; exact makeBatch_c hB1 (by rw [hr1]; omega)) ?_
  rintro v9 w9 ⟨ho9, hc9⟩
  obtain ⟨o9, c9, rfl, _, hb9⟩ := own_at ho9
  refine zak (fun args w => Tryd.call10 args w) (by simp only [List.map_toArray, List.map_cons, List.map_nil, evb, kb, hN, seval]; exact tellBatch_c hb9 hR1 hl1) ?_
  rintro _ w10 ⟨vt, rfl, ht10, hc10⟩
  have hlt := one_bt.len ht10
  have hct := one_bt.cell ht10
  (repeat ((with_reducible refine zah ?_ ?_ ?_); (· simp [evb, pvb, rnb, kb, hN, dyb, sdb] <;> omega); (· kernel_rfl); try simp only [evb, pvb, rnb, kb, hN, seval]))
  refine zaH (z := zax (btV ⟨0, 0, 0, 0, 0, 0, 0, 0, 0, 0, 0, 0, 0, []⟩ (.slice none 0 0))) (fun w => Tryd.zeroValue26 w) fun w11 hc11 hb11 hs11 => ?_
  refine zaA (b := w10.heap.size) (n := 14) (l' := vt) (by kernel_rfl) (by simp only [evb, pvb, rnb, kb, hN, seval]) (by simp only [evb, pvb, rnb, kb, hN, seval]; try rfl) hb11 hlt hct rfl fun w12 hb12 hc12 => ?_
  (repeat ((with_reducible refine zah ?_ ?_ ?_); (· simp [evb, pvb, rnb, kb, hN, dyb, sdb] <;> omega); (· kernel_rfl); try simp only [evb, pvb, rnb, kb, hN, seval])); refine zaa ?_; refine hK _ _ ?_; clear hK K
  have hc1012 : Chg (fun _ => False) w10 w12 := hc11.trans hc12 fun n hn h => by omega
  have hc012 : Chg (fun _ => False) w w12 := ((hc08.trans hc9 fun _ _ h => h).trans hc10 fun _ _ h => h).trans hc1012 fun _ _ h => h
  have ht12 := one_bt.stay (Stay.of hc1012 fun _ _ _ h => h) ht10
  obtain ⟨o12, c12, hv12, hcp12, hbt12, _⟩ := ht12
  have lm := hb12.ld (i := 12) (v := .int .i32 l.length) (by rw [hv12, ← hm1]; rfl)
  have lr := hb12.ld (i := 13) (v := .slice o12 acc.length c12) (by rw [hv12, ← hr1]; rfl)
  rw [hr1] at hbt12
  have hi64 : IntKind.i64.wrap (l.length : Int) = l.length := i64_sm _ (by omega)
  have ene : (((l.length : Int) != (l.length : Int)) : Bool) = false := by simp
  refine wp_seq_k fun K hK => ?_; refine wp_seq_k fun K1 hK1 => ?_; refine zac ?_
  (repeat (first | ((with_reducible refine zah ?_ ?_ ?_); (· simp [evb, pvb, rnb, kb, hN, seval, g1, ofB, lm, hi64, ene, dyb, sdb] <;> omega); (· kernel_rfl); try simp only [evb, pvb, rnb, kb, hN, seval, g1, ofB, lm, hi64, ene]) | ((with_reducible apply zau); (· exact rfl); (· exact rfl); (· simp [evb, pvb, rnb, kb, hN, seval, g1, ofB, lm, hi64, ene]; done); try simp only [evb, pvb, rnb, kb, hN, seval, g1, ofB, lm, hi64, ene]) | ((with_reducible apply zaD); (· exact rfl); (· exact rfl); (· simp [evb, pvb, rnb, kb, hN, seval, g1, ofB, lm, hi64, ene]; done); try simp only [evb, pvb, rnb, kb, hN, seval, g1, ofB, lm, hi64, ene]) | ((with_reducible apply zaE); (· exact rfl); (· exact rfl); (· simp [evb, pvb, rnb, kb, hN, seval, g1, ofB, lm, hi64, ene]; done); try simp only [evb, pvb, rnb, kb, hN, seval, g1, ofB, lm, hi64, ene])))
  refine zaa ?_; refine hK1 _ _ ?_; try clear hK1 K1
  refine wp_cond_false (by simp [evb, kb, hN, sdb]) ?_
  refine wp_skip (hK _ _ ?_)
  clear hK K
  refine wp_seq_k fun K hK => ?_; refine zac ?_; (repeat ((with_reducible refine zah ?_ ?_ ?_); (· simp [evb, pvb, rnb, kb, hN, ofB, lr, dyb, sdb] <;> omega); (· kernel_rfl); try simp only [evb, pvb, rnb, kb, hN, seval, ofB, lr])); refine zaa ?_; refine hK _ _ ?_; clear hK K
  refine zaw fun a3 ha => ?_
  have hN' : a3.tmps.size = 128 := by rw [ha]; simp only [zaf]; exact hN
  have hD' : a3.defers = [] := by rw [ha]; simp only [zab]; exact hD
  have g1' : get a3 1 = .slice ol l.length cl := by rw [ha]; simp only [evb, pvb, rnb, kb, hN, seval, g1]
  have g9 : get a3 9 = .slice o12 acc.length c12 := by rw [ha]; simp only [evb, pvb, rnb, kb, hN, seval]
  clear ha hN hD g1 g2
  have hN := hN'
  have hD := hD'
  have g1 := g1'
  clear hN' hD' g1'
  refine wp_seq_k fun K hK => ?_; refine wp_seq_k fun K1 hK1 => ?_; refine zac ?_; (repeat ((with_reducible refine zah ?_ ?_ ?_); (· simp [evb, pvb, rnb, kb, hN, g1, dyb, sdb] <;> omega); (· kernel_rfl); try simp only [evb, pvb, rnb, kb, hN, seval, g1])); refine zaa ?_; refine hK1 _ _ ?_; try clear hK1 K1
  refine wp_range (n := l.length) (fun i a' w' => ∃ (bs : Bs) (o9 : Option Addr) (c9 : Nat) (G9 : Nat → Prop), a'.tmps.size = 128 ∧ a'.defers = [] ∧ get a' 75 = .slice ol l.length cl ∧ get a' 9 = .slice o9 bs.length c9 ∧ bs = (l.drop i).flatMap recB ∧ bs.length ≤ 262154 ∧ bs.length ≤ c9 ∧ zam w' G9 o9 bs ∧ Chg (fun _ => False) w12 w') 128 hn
    (by simp only [evb, kb, hN, seval]; try rfl) (by simp only [evb, kb, hN, seval]) ⟨acc, o12, c12, _, by simp only [zaf, hN], by simp only [zab, hD], by simp only [evb, pvb, rnb, kb, hN, seval], by simp only [evb, pvb, rnb, kb, hN, seval, g9], by rw [List.drop_zero]; exact hacc.symm, hal, by rw [hr1] at hcp12; exact hcp12, hbt12, Chg.refl _ _⟩ ?_ ?_ (by decide) ?_ ?_
  · rintro i a w ⟨_, _, _, _, h, _⟩; exact h
  · rintro i a w t v ht ⟨bs, o9, c9, G9, k1, k2, k3, k4, k5⟩
    rcases ht with rfl | rfl | rfl <;> exact ⟨bs, o9, c9, G9, by rw [zaf]; exact k1, by rw [zab]; exact k2, by rw [zaq (by decide)]; exact k3, by rw [zaq (by decide)]; exact k4, k5⟩
  · clear hN hD g1 g9 lm lr hbt12
    rintro i a4 w13 hi ⟨bs, o13, c13, G13, hN, hD, g75, g9, hbs, hbl13, hcp13, hbt, hc13⟩ g76 g77
    have hx : l[i]? = some l[i] := by simp [hi]
    have hxL := hL l[i] (List.getElem_mem hi)
    have hxl := hlit l[i] (List.getElem_mem hi)
    have hdrop : l.drop i = l[i] :: l.drop (i + 1) := List.drop_eq_getElem_cons hi
    generalize l[i] = x at hx hxL hxl hdrop
    obtain ⟨hx1000, hxr⟩ := little_out hxl
    rcases hrow with rfl | ⟨b, o, cs, T, rfl, hGb, hb, htl⟩
    · simp at hi
    obtain ⟨hcx, hlx⟩ := htl.get one_rc hx
    have hc013 := hc012.trans hc13 fun _ _ h => h
    have hb13 : Rbk w13 b cs T := hb.chg hc013 (fun h => h)
    rw [List.length_drop] at hlx
    rw [List.drop_drop] at hcx
    have hlen := one_rc.len hcx
    have hcell := one_rc.cell hcx
    have hxR : RcR x := by obtain ⟨_, _, _, _, _, _, _, _, _, h⟩ := hcx; exact h
    obtain ⟨rest, hrest⟩ : ∃ r, r = (l.drop (i + 1)).flatMap recB := ⟨_, rfl⟩
    have hb1 : bs = zaN (zaJ x).length ++ (zaJ x ++ rest) := by rw [hbs, hdrop, List.flatMap_cons, ← hrest]; unfold recB; rw [List.append_assoc]
    have hvl := zaC (zaJ x).length
    have hbl1 : bs.length = (zaN (zaJ x).length).length + ((zaJ x).length + rest.length) := by rw [hb1, List.length_append, List.length_append]
    refine wp_seq_k fun K3 hK3 => ?_; refine zac ?_
    refine wl_indexAddr (b := b) (o := o) (k := .i64) (i := i) (n := 9) (len := l.length) (cap := cl) (by kernel_rfl) (by simp [evb, kb, hN, g75, sdb]) (by simp [evb, kb, hN, g77, sdb]) hi ?_
    refine wl_loadAgg_r (b := b) (o := o + i * 9) (n := 9) (by kernel_rfl) (by kernel_rfl) (by simp [evb, kb, hN, sdb]) hb13 (by omega) ?_
    generalize (cs.drop (o + i * 9)).take 9 = vx at hcx hlen hcell
    refine zaH (z := zax [.int .i32 0, .int .i8 0, .int .i64 0, .int .i32 0, .bool false, .slice none 0 0, .bool false, .slice none 0 0, .slice none 0 0]) (fun w => Tryd.zeroValue34 w) fun w14 hc14 hb14 hs14 => ?_
    refine zaA (b := w13.heap.size) (n := 9) (l' := vx) (by kernel_rfl) (by simp [evb, kb, hN, sdb]) (by simp [evb, kb, hN, sdb]; rfl) hb14 hlen hcell rfl fun w15 hb15 hc15 => ?_
    refine zaa ?_; refine hK3 _ _ ?_; try clear hK3 K3
    have hc1315 : Chg (fun _ => False) w13 w15 := hc14.trans hc15 fun n hn h => by omega
    have hc015 := hc013.trans hc1315 fun _ _ h => h
    have hbt15 := hbt.chg hc1315 fun _ _ _ h => h
    have hs15 := hc15.size
    refine wp_seq_k fun K3 hK3 => ?_; refine zac ?_; (repeat ((with_reducible refine zah ?_ ?_ ?_); (· simp [evb, pvb, rnb, kb, hN, g9, dyb, sdb] <;> omega); (· kernel_rfl); try simp only [evb, pvb, rnb, kb, hN, seval, g9]))
    rw [hb1] at hbt15
    refine zak (fun args w => Tryd.call12 args w) (by simp only [List.map_toArray, List.map_cons, List.map_nil, evb, kb, hN, seval, g9]; rw [hb1]; exact readVarint_c (n := (zaJ x).length) (by omega) hbt15 (by rw [← hb1]; unfold LIM; omega)) ?_
    intro _ w16 hw
    obtain ⟨rfl, hw⟩ := hw
    replace hw := hw.symm
    subst hw
    rw [← hb1] at hbt15
    (repeat ((with_reducible refine zah ?_ ?_ ?_); (· simp [evb, pvb, rnb, kb, hN, ex3, dyb, sdb] <;> omega); (· kernel_rfl); try simp only [evb, pvb, rnb, kb, hN, seval, ex3])); refine zaa ?_; refine hK3 _ _ ?_; try clear hK3 K3
    have d1 : decide (((zaJ x).length : Int) < 0) = false := decide_eq_false (by omega)
    have d0 : (((0 : Int) != 0) : Bool) = false := rfl
    have hi1 : IntKind.i64.wrap (((zaN (zaJ x).length).length : Int) + ((zaJ x).length : Int)) = (((zaN (zaJ x).length).length + (zaJ x).length : Nat) : Int) := by rw [i64_sm _ (by omega)]; rfl
    have d2 : decide ((bs.length : Int) < (((zaN (zaJ x).length).length + (zaJ x).length : Nat) : Int)) = false := decide_eq_false (by omega)
    refine wp_seq_k fun K3 hK3 => ?_; refine wp_seq_k fun K4 hK4 => ?_; refine zac ?_
    (repeat (first | ((with_reducible refine zah ?_ ?_ ?_); (· simp [evb, pvb, rnb, kb, hN, seval, g9, d0, d1, hi1, d2, dyb, sdb] <;> omega); (· kernel_rfl); try simp only [evb, pvb, rnb, kb, hN, seval, g9, d0, d1, hi1, d2]) | ((with_reducible apply zau); (· exact rfl); (· exact rfl); (· simp [evb, pvb, rnb, kb, hN, seval, g9, d0, d1, hi1, d2]; done); try simp only [evb, pvb, rnb, kb, hN, seval, g9, d0, d1, hi1, d2]) | ((with_reducible apply zaD); (· exact rfl); (· exact rfl); (· simp [evb, pvb, rnb, kb, hN, seval, g9, d0, d1, hi1, d2]; done); try simp only [evb, pvb, rnb, kb, hN, seval, g9, d0, d1, hi1, d2]) | ((with_reducible apply zaE); (· exact rfl); (· exact rfl); (· simp [evb, pvb, rnb, kb, hN, seval, g9, d0, d1, hi1, d2]; done); try simp only [evb, pvb, rnb, kb, hN, seval, g9, d0, d1, hi1, d2])))
    refine zaa ?_; refine hK4 _ _ ?_; try clear hK4 K4
    refine wp_cond_false (by simp [evb, kb, hN, sdb]) ?_
    refine wp_skip ?_
    refine hK3 _ _ ?_; try clear hK3 K3
    have hrl : (recB x).length = (zaN (zaJ x).length).length + (zaJ x).length := by unfold recB; rw [List.length_append]
    have htk : bs.take ((zaN (zaJ x).length).length + (zaJ x).length) = rdB (krRd x) := by
      rw [rdB_recB, hb1, ← List.append_assoc, ← hrl]
      exact List.take_left' rfl
    have hbx := hbt15.take ((zaN (zaJ x).length).length + (zaJ x).length)
    rw [htk] at hbx
    have hdk : bs.drop ((zaN (zaJ x).length).length + (zaJ x).length) = rest := by
      rw [hb1, ← List.append_assoc, ← hrl]
      exact List.drop_left' rfl
    have d3 : decide ((0 : Int) ≤ (((zaN (zaJ x).length).length + (zaJ x).length : Nat) : Int)) = true := decide_eq_true (by omega)
    have d4 : decide ((((zaN (zaJ x).length).length + (zaJ x).length : Nat) : Int) ≤ (c13 : Int)) = true := decide_eq_true (by omega)
    have hkl : (rdB (krRd x)).length = (zaN (zaJ x).length).length + (zaJ x).length := by rw [rdB_recB, hrl]
    refine wp_seq_k fun K3 hK3 => ?_; refine zac ?_; (repeat ((with_reducible refine zah ?_ ?_ ?_); (· simp [evb, pvb, rnb, kb, hN, g9, hi1, d3, d4, Int.toNat_natCast, dyb, sdb] <;> omega); (· kernel_rfl); try simp only [evb, pvb, rnb, kb, hN, seval, g9, hi1, d3, d4, Int.toNat_natCast]))
    rw [← hkl]
    refine zak (fun args w => Tryd.call13 args w) (by simp only [List.map_toArray, List.map_cons, List.map_nil, evb, kb, hN, seval]; exact tellRecord_c hbx (krRd_R hxR hxr) (krRd_L hxL hx1000) rfl) ?_
    rintro _ w17 ⟨vt2, rfl, ht17, hc17⟩
    have hlt2 := one_rc.len ht17
    have hct2 := one_rc.cell ht17
    (repeat ((with_reducible refine zah ?_ ?_ ?_); (· simp [evb, pvb, rnb, kb, hN, dyb, sdb] <;> omega); (· kernel_rfl); try simp only [evb, pvb, rnb, kb, hN, seval]))
    refine zaH (z := zax [.int .i32 0, .int .i8 0, .int .i64 0, .int .i32 0, .bool false, .slice none 0 0, .bool false, .slice none 0 0, .slice none 0 0]) (fun w => Tryd.zeroValue34 w) fun w18 hc18 hb18 hs18 => ?_
    refine zaA (b := w17.heap.size) (n := 9) (l' := vt2) (by kernel_rfl) (by simp [evb, kb, hN, sdb]) (by simp [evb, kb, hN, sdb]) hb18 hlt2 hct2 rfl fun w19 hb19 hc19 => ?_
    (repeat ((with_reducible refine zah ?_ ?_ ?_); (· simp [evb, pvb, rnb, kb, hN, dyb, sdb] <;> omega); (· kernel_rfl); try simp only [evb, pvb, rnb, kb, hN, seval])); refine zaa ?_; refine hK3 _ _ ?_; try clear hK3 K3
    have hc1719 : Chg (fun _ => False) w17 w19 := hc18.trans hc19 fun n hn h => by omega
    have hc1519 : Chg (fun _ => False) w15 w19 := hc17.trans hc1719 fun _ _ h => h
    have hc019 := hc015.trans hc1519 fun _ _ h => h
    have hb1519 := hb15.chg hc1519 fun h => h
    have ht19 := one_rc.stay (Stay.of hc1719 fun _ _ _ h => h) ht17
    have hx19 := one_rc.stay (Stay.of hc019 fun _ _ _ h => h) hcx
    have hkk : (zaP (octO x.key)).data.length ≤ x.key.data.length := by rw [octOf_len]; exact obL_octO _
    have hvv : (zaP (octO x.val)).data.length ≤ x.val.data.length := by rw [octOf_len]; exact obL_octO _
    have hxk := hxL.key
    have hxv := hxL.val
    refine wp_seq_k fun K3 hK3 => ?_; refine wp_seq_k fun K4 hK4 => ?_
    refine wp_sched (fun w' => Chg (fun _ => False) w19 w') [(true, 0), (true, 1), (true, 2), (true, 3), (true, 4), (false, 5), (false, 6), (true, 7), (true, 8)] zaz (by kernel_rfl) (by kernel_rfl) (Chg.drew _ _) ?_
    (repeat (first | (refine ws_pX rfl ?_ ?_ ?_; (· simp [evb, pvb, rnb, kb, hN, seval, dyb, sdb] <;> omega); (· kernel_rfl); try simp only [evb, pvb, rnb, kb, hN, seval]) | (refine ws_pgX rfl rfl rfl ?_ ?_ ?_ ?_; (· simp [evb, pvb, rnb, kb, hN, seval]; done); (· simp [evb, pvb, rnb, kb, hN, seval, dyb, sdb] <;> omega); (· kernel_rfl); try simp only [evb, pvb, rnb, kb, hN, seval]) | (refine ws_gnoX rfl rfl rfl ?_ ?_; (· simp [evb, pvb, rnb, kb, hN, seval]; done); try simp only [evb, pvb, rnb, kb, hN, seval])))
    refine ws_loadAggG (b := w17.heap.size) (o := 0) (n := 9) (by kernel_rfl) (by kernel_rfl) rfl rfl rfl (by simp only [evb, pvb, rnb, kb, hN, seval]) (by simp only [evb, pvb, rnb, kb, hN, seval]) (fun _ c => hb19.chg c fun h => h) (by omega) ?_
    rw [List.drop_zero, List.take_of_length_le (show vt2.length ≤ 9 by omega)]
    refine ws_loadAggG (b := w13.heap.size) (o := 0) (n := 9) (by kernel_rfl) (by kernel_rfl) rfl rfl rfl (by simp only [evb, pvb, rnb, kb, hN, seval]) (by simp only [evb, pvb, rnb, kb, hN, seval]) (fun _ c => hb1519.chg c fun h => h) (by omega) ?_
    rw [List.drop_zero, List.take_of_length_le (show vx.length ≤ 9 by omega)]
    have hcd : Chg (fun _ => False) w19 w19.drew := Chg.drew _ _
    refine ws_callG (fun args w => Tryd.call8 args w) rfl rfl rfl (by simp only [evb, pvb, rnb, kb, hN, seval]) (by simp only [List.map_toArray, List.map_cons, List.map_nil, evb, kb, hN, seval]; exact measured_c (one_rc.stay (Stay.of hcd fun _ _ _ h => h) hx19) hxL hx1000) ?_
    rintro _ w20 ⟨vm, rfl, hm20, hc20⟩
    have hc1920 := hcd.trans hc20 fun _ _ h => h
    refine ⟨hc1920, ?_⟩
    have hy1 : ∀ h ∈ (backOf (krRd x)).hs, h.val.data.length ≤ LIM := fun h hh => by
      obtain ⟨z, hz, rfl⟩ := List.mem_map.1 hh
      obtain ⟨y, hy, rfl⟩ := List.mem_map.1 hz
      have h1 : (zaP (octO y.val)).data.length ≤ y.val.data.length := by rw [octOf_len]; exact obL_octO _
      have h2 := (hxL.hk y hy).2
      show (zaP (octO y.val)).data.length ≤ _
      unfold LIM; omega
    refine ws_callG (fun args w => Tryd.call14 args w) rfl rfl rfl (by simp only [evb, pvb, rnb, kb, hN, seval]) (by simp only [List.map_toArray, List.map_cons, List.map_nil, evb, kb, hN, seval]; exact sameRecord_c (one_rc.stay (Stay.of hc1920 fun _ _ _ h => h) ht19) hm20 (backOf_E x) ⟨Nat.le_trans hkk (by unfold LIM; omega), Nat.le_trans hvv (by unfold LIM; omega)⟩ hy1 (by show ((x.hs.map khOf).map hdOf).length ≤ _; rw [List.length_map, List.length_map]; omega)) ?_
    rintro _ w21 ⟨rfl, hc21⟩
    have hc1921 := hc1920.trans hc21 fun _ _ h => h
    refine ⟨hc1921, ?_⟩
    (repeat (first | (refine ws_pX rfl ?_ ?_ ?_; (· simp [evb, pvb, rnb, kb, hN, seval, dyb, sdb] <;> omega); (· kernel_rfl); try simp only [evb, pvb, rnb, kb, hN, seval]) | (refine ws_pgX rfl rfl rfl ?_ ?_ ?_ ?_; (· simp [evb, pvb, rnb, kb, hN, seval]; done); (· simp [evb, pvb, rnb, kb, hN, seval, dyb, sdb] <;> omega); (· kernel_rfl); try simp only [evb, pvb, rnb, kb, hN, seval]) | (refine ws_gnoX rfl rfl rfl ?_ ?_; (· simp [evb, pvb, rnb, kb, hN, seval]; done); try simp only [evb, pvb, rnb, kb, hN, seval])))
    refine ws_nil ?_
    refine hK4 _ _ ?_; try clear hK4 K4
    refine wp_cond_false (by simp only [evb, pvb, rnb, kb, hN, seval]) ?_
    refine wp_skip ?_
    refine hK3 _ _ ?_; try clear hK3 K3
    have hrl2 : bs.length - ((zaN (zaJ x).length).length + (zaJ x).length) = rest.length := by omega
    have d6 : decide ((((zaN (zaJ x).length).length + (zaJ x).length : Nat) : Int) ≤ (bs.length : Int)) = true := decide_eq_true (by omega)
    refine zac ?_; (repeat ((with_reducible refine zah ?_ ?_ ?_); (· simp [evb, pvb, rnb, kb, hN, g9, hi1, d3, d6, Int.toNat_natCast, hrl2, dyb, sdb] <;> omega); (· kernel_rfl); try simp only [evb, pvb, rnb, kb, hN, seval, g9, hi1, d3, d6, Int.toNat_natCast, hrl2]))
    have hbr := bytes_rest (i := (zaN (zaJ x).length).length + (zaJ x).length) hbt15 hcp13
    rw [hdk] at hbr
    have hc1521 := hc1519.trans hc1921 fun _ _ h => h
    refine zaa ⟨⟨rest, _, c13 - ((zaN (zaJ x).length).length + (zaJ x).length), G13, by simp only [zaf, hN], by simp only [zab, hD], by simp only [evb, pvb, rnb, kb, hN, seval, g75], by simp only [evb, pvb, rnb, kb, hN, seval, fo, Nat.mul_one], hrest, by omega, ?_, hbr.chg hc1521 fun _ _ _ h => h, (hc13.trans hc1315 fun _ _ h => h).trans hc1521 fun _ _ h => h⟩, by simp only [evb, pvb, rnb, kb, hN, seval, g76], by simp only [evb, pvb, rnb, kb, hN, seval, g77]⟩
    omega
  · clear hN hD g1 g9
    rintro a4 w13 ⟨bs, o13, c13, G13, hN, hD, g75, g9, hbs, hbl13, hcp13, hbt, hc13⟩
    refine hK _ _ ?_
    clear hK K
    have hb0 : bs.length = 0 := by rw [hbs]; simp
    have d : (((bs.length : Int) == 0) : Bool) = true := by rw [hb0]; rfl
    refine wp_seq_k fun K hK => ?_; refine zac ?_; (repeat ((with_reducible refine zah ?_ ?_ ?_); (· simp [evb, pvb, rnb, kb, hN, g9, d, dyb, sdb] <;> omega); (· kernel_rfl); try simp only [evb, pvb, rnb, kb, hN, seval, g9, d])); refine zaa ?_; refine hK _ _ ?_; clear hK K; refine wp_ret ⟨by simp [zab, hD], ?_⟩; simp only [evb, kb, hN, seval]
    exact ⟨by first | rfl | trivial, hc012.trans hc13 fun _ _ h => h⟩
end Go.Proofs.YtojpodeljpfgaaaDoor
