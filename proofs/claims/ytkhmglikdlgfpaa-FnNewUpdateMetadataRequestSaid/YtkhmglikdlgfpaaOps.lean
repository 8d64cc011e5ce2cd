import Derived.Test.YtkhmglikdlgfpaaBase
/-
Single operations on plain values, slices of octets and fields: what each does to a frame. Generic over the program.
-/
namespace Go.Proofs.Ytkhmglikdlgfpaa
set_option linter.all false
open Go.RowKit

/-! ### Values -/

def isI : Value → Bool | .int _ _ => true | _ => false
def cvt (k : IntKind) : Value → Value | .int _ n => .int k (k.wrap n) | v => v
def add2 : Value → Value → Value | .int k x, .int _ y => .int k (k.wrap (x + y)) | v, _ => v
def sub2 : Value → Value → Value | .int k x, .int _ y => .int k (k.wrap (x - y)) | v, _ => v
def cmp2 (f : Int → Int → Bool) : Value → Value → Value | .int _ x, .int _ y => .bool (f x y) | v, _ => v
def sameK : Value → Value → Bool | .int j _, .int k _ => decide (j = k) | _, _ => false
def shrV (c : Nat) : Value → Value | .int k x => .int k (x / (2 ^ min c k.bits)) | v => v
def notV : Value → Value | .bool b => .bool !b | v => v
def isB : Value → Bool | .bool _ => true | _ => false
def lenV : Value → Value | .slice _ n _ => .int .i64 n | .string s => .int .i64 s.size | v => v
def isLen : Value → Bool | .slice _ _ _ => true | .string _ => true | _ => false
def isS : Value → Bool | .slice _ _ _ => true | _ => false
def isStr : Value → Bool | .string _ => true | _ => false

def intB (P : Program) (t : Nat) (k : IntKind) : Bool := match P.underlying t with | some (.int j) => decide (j = k) | _ => false
def someB (P : Program) (t : Nat) : Bool := (P.underlying t).isSome
def strB (P : Program) (t : Nat) : Bool := match P.underlying t with | some .string => true | _ => false
def sliceB (P : Program) (t n : Nat) : Bool := match P.underlying t with | some (.slice e) => sizeB P e n | _ => false

theorem intB_eq {P : Program} {t : Nat} {k : IntKind} (h : intB P t k = true) : P.underlying t = some (.int k) := by
  unfold intB at h; split at h
  · rename_i j hj; rw [hj]; simp at h; rw [h]
  · cases h
theorem strB_eq {P : Program} {t : Nat} (h : strB P t = true) : P.underlying t = some .string := by
  unfold strB at h; split at h
  · assumption
  · cases h
theorem sliceB_eq {P : Program} {t n : Nat} (h : sliceB P t n = true) : ∃ e, P.underlying t = some (.slice e) ∧ sizeB P e n = true := by
  unfold sliceB at h; split at h
  · rename_i e he; exact ⟨e, he, h⟩
  · cases h

section
variable {P : Program} {ops : Array Oper} {Q : Exit → Act → World → Prop} {a : Act} {w : World} {rest : List Oper}
variable {d : Option Nat} {ty : TypeId} {pos : String} {af : Array Edge}

/-- The kind of a type of whole numbers. -/
def kindOf (P : Program) (t : Nat) : IntKind := match P.underlying t with | some (.int k) => k | _ => .i64
def isIntT (P : Program) (t : Nat) : Bool := match P.underlying t with | some (.int _) => true | _ => false
theorem isIntT_eq {P : Program} {t : Nat} (h : isIntT P t = true) : P.underlying t = some (.int (kindOf P t)) := by
  unfold isIntT at h; split at h
  · rename_i k hk; unfold kindOf; rw [hk]
  · cases h
theorem wl_conv {s t : TypeId} {x : Operand} (hs : someB P s = true) (ht : isIntT P t = true) (hx : isI (a.eval x) = true)
    (h : WL P ops Q rest (a.put d (cvt (kindOf P t) (a.eval x))) w) : WL P ops Q (⟨d, .convert s t x, ty, pos, af, none⟩ :: rest) a w := by
  cases hv : a.eval x with
  | int j n =>
    rw [hv] at h
    refine wl_val rfl ?_ h
    unfold someB at hs
    cases hu : P.underlying s with
    | none => rw [hu] at hs; cases hs
    | some u => cases u <;> simp [execOp, convert, underlying, hu, isIntT_eq ht, hv, Conv.intToInt, cvt]
  | _ => rw [hv] at hx; cases hx

theorem wl_add {t u : TypeId} {x y : Operand} (hk : sameK (a.eval x) (a.eval y) = true)
    (h : WL P ops Q rest (a.put d (add2 (a.eval x) (a.eval y))) w) : WL P ops Q (⟨d, .binOp .add t x y u, ty, pos, af, none⟩ :: rest) a w := by
  cases hx : a.eval x <;> cases hy : a.eval y <;> rw [hx, hy] at hk h <;> try (cases hk; done)
  all_goals (simp [sameK] at hk; subst hk; refine wl_val rfl ?_ h; simp [execOp, eqGuard, binOp, hx, hy, Op.intArith, add2])
theorem wl_sub {t u : TypeId} {x y : Operand} (hk : sameK (a.eval x) (a.eval y) = true)
    (h : WL P ops Q rest (a.put d (sub2 (a.eval x) (a.eval y))) w) : WL P ops Q (⟨d, .binOp .sub t x y u, ty, pos, af, none⟩ :: rest) a w := by
  cases hx : a.eval x <;> cases hy : a.eval y <;> rw [hx, hy] at hk h <;> try (cases hk; done)
  all_goals (simp [sameK] at hk; subst hk; refine wl_val rfl ?_ h; simp [execOp, eqGuard, binOp, hx, hy, Op.intArith, sub2])
theorem wl_lss {t u : TypeId} {x y : Operand} (hk : sameK (a.eval x) (a.eval y) = true)
    (h : WL P ops Q rest (a.put d (cmp2 (fun x y => decide (x < y)) (a.eval x) (a.eval y))) w) : WL P ops Q (⟨d, .binOp .lss t x y u, ty, pos, af, none⟩ :: rest) a w := by
  cases hx : a.eval x <;> cases hy : a.eval y <;> rw [hx, hy] at hk h <;> try (cases hk; done)
  all_goals (simp [sameK] at hk; subst hk; refine wl_val rfl ?_ h; simp [execOp, eqGuard, binOp, hx, hy, Op.intCmp, cmp2])
theorem wl_leq {t u : TypeId} {x y : Operand} (hk : sameK (a.eval x) (a.eval y) = true)
    (h : WL P ops Q rest (a.put d (cmp2 (fun x y => decide (x ≤ y)) (a.eval x) (a.eval y))) w) : WL P ops Q (⟨d, .binOp .leq t x y u, ty, pos, af, none⟩ :: rest) a w := by
  cases hx : a.eval x <;> cases hy : a.eval y <;> rw [hx, hy] at hk h <;> try (cases hk; done)
  all_goals (simp [sameK] at hk; subst hk; refine wl_val rfl ?_ h; simp [execOp, eqGuard, binOp, hx, hy, Op.intCmp, cmp2])
theorem wl_gtr {t u : TypeId} {x y : Operand} (hk : sameK (a.eval x) (a.eval y) = true)
    (h : WL P ops Q rest (a.put d (cmp2 (fun x y => decide (y < x)) (a.eval x) (a.eval y))) w) : WL P ops Q (⟨d, .binOp .gtr t x y u, ty, pos, af, none⟩ :: rest) a w := by
  cases hx : a.eval x <;> cases hy : a.eval y <;> rw [hx, hy] at hk h <;> try (cases hk; done)
  all_goals (simp [sameK] at hk; subst hk; refine wl_val rfl ?_ h; simp [execOp, eqGuard, binOp, hx, hy, Op.intCmp, cmp2])
theorem wl_geq {t u : TypeId} {x y : Operand} (hk : sameK (a.eval x) (a.eval y) = true)
    (h : WL P ops Q rest (a.put d (cmp2 (fun x y => decide (y ≤ x)) (a.eval x) (a.eval y))) w) : WL P ops Q (⟨d, .binOp .geq t x y u, ty, pos, af, none⟩ :: rest) a w := by
  cases hx : a.eval x <;> cases hy : a.eval y <;> rw [hx, hy] at hk h <;> try (cases hk; done)
  all_goals (simp [sameK] at hk; subst hk; refine wl_val rfl ?_ h; simp [execOp, eqGuard, binOp, hx, hy, Op.intCmp, cmp2])
theorem wl_eql {t u : TypeId} {x y : Operand} (hk : sameK (a.eval x) (a.eval y) = true)
    (h : WL P ops Q rest (a.put d (cmp2 (fun x y => x == y) (a.eval x) (a.eval y))) w) : WL P ops Q (⟨d, .binOp .eql t x y u, ty, pos, af, none⟩ :: rest) a w := by
  cases hx : a.eval x <;> cases hy : a.eval y <;> rw [hx, hy] at hk h <;> try (cases hk; done)
  all_goals (simp [sameK] at hk; subst hk; refine wl_val rfl ?_ h; simp [execOp, eqGuard, binOp, hx, hy, Op.intCmp, cmp2])
theorem wl_neq {t u : TypeId} {x y : Operand} (hk : sameK (a.eval x) (a.eval y) = true)
    (h : WL P ops Q rest (a.put d (cmp2 (fun x y => x != y) (a.eval x) (a.eval y))) w) : WL P ops Q (⟨d, .binOp .neq t x y u, ty, pos, af, none⟩ :: rest) a w := by
  cases hx : a.eval x <;> cases hy : a.eval y <;> rw [hx, hy] at hk h <;> try (cases hk; done)
  all_goals (simp [sameK] at hk; subst hk; refine wl_val rfl ?_ h; simp [execOp, eqGuard, binOp, hx, hy, Op.intCmp, cmp2])
theorem wl_shr {t u : TypeId} {x : Operand} {j : IntKind} {c : Int} (hx : isI (a.eval x) = true) (h0 : decide (0 ≤ c) = true)
    (h : WL P ops Q rest (a.put d (shrV c.toNat (a.eval x))) w) : WL P ops Q (⟨d, .binOp .shr t x (.const (.int j c)) u, ty, pos, af, none⟩ :: rest) a w := by
  cases hv : a.eval x with
  | int k n =>
    rw [hv] at h
    refine wl_val rfl ?_ h
    have h0' : ¬ (c < 0) := by have := of_decide_eq_true h0; omega
    simp [execOp, eqGuard, binOp, hv, eval_const, Op.shift, shrV, h0']
    rw [Int.fdiv_eq_ediv_of_nonneg _ (by exact Int.le_of_lt (Int.pow_pos (by decide)))]
  | _ => rw [hv] at hx; cases hx
theorem run_equalIn_nil (d : Nat) {t e : TypeId} (he : P.underlying t = some (.pointer e)) (p : Option Addr) : (Op.equalIn (d + 1) t (.pointer p) (.pointer none)).run P w = .ok p.isNone w := by
  cases p <;> simp [Op.equalIn, underlying, he]
theorem run_equal_nil {t e : TypeId} (he : P.underlying t = some (.pointer e)) (p : Option Addr) : (Op.equal t (.pointer p) (.pointer none)).run P w = .ok p.isNone w := run_equalIn_nil 9999 he p
theorem run_equalIn_nilS (d : Nat) {t e : TypeId} (he : P.underlying t = some (.slice e)) (oa : Option Addr) (i j k m : Nat) : (Op.equalIn (d + 1) t (.slice oa i j) (.slice none k m)).run P w = .ok oa.isNone w := by
  cases oa <;> simp [Op.equalIn, underlying, he]
theorem run_equal_nilS {t e : TypeId} (he : P.underlying t = some (.slice e)) (oa : Option Addr) (i j k m : Nat) : (Op.equal t (.slice oa i j) (.slice none k m)).run P w = .ok oa.isNone w := run_equalIn_nilS 9999 he oa i j k m
def ptrB (P : Program) (t : Nat) : Bool := match P.underlying t with | some (.pointer _) => true | _ => false
def isNilV : Value → Value | .pointer p => .bool p.isNone | v => v
def isP : Value → Bool | .pointer _ => true | _ => false
theorem wl_eqlNil {t u : TypeId} {x : Operand} (ht : ptrB P t = true) (hx : isP (a.eval x) = true)
    (h : WL P ops Q rest (a.put d (isNilV (a.eval x))) w) : WL P ops Q (⟨d, .binOp .eql t x (.const (.pointer none)) u, ty, pos, af, none⟩ :: rest) a w := by
  unfold ptrB at ht
  split at ht
  · rename_i e he
    cases hv : a.eval x with
    | pointer p =>
      rw [hv] at h
      refine wl_val rfl ?_ h
      simp [execOp, eqGuard, binOp, hv, eval_const, run_equal_nil he, isNilV]
    | _ => rw [hv] at hx; cases hx
  · cases ht
theorem wl_neqNil {t u : TypeId} {x : Operand} (ht : ptrB P t = true) (hx : isP (a.eval x) = true)
    (h : WL P ops Q rest (a.put d (notV (isNilV (a.eval x)))) w) : WL P ops Q (⟨d, .binOp .neq t x (.const (.pointer none)) u, ty, pos, af, none⟩ :: rest) a w := by
  unfold ptrB at ht
  split at ht
  · rename_i e he
    cases hv : a.eval x with
    | pointer p =>
      rw [hv] at h
      refine wl_val rfl ?_ h
      simp [execOp, eqGuard, binOp, hv, eval_const, run_equal_nil he, isNilV, notV]
    | _ => rw [hv] at hx; cases hx
  · cases ht
def slB (P : Program) (t : Nat) : Bool := match P.underlying t with | some (.slice _) => true | _ => false
theorem sliceB.any {t n : Nat} (h : sliceB P t n = true) : slB P t = true := by
  obtain ⟨e, he, _⟩ := sliceB_eq h
  simp [slB, he]
theorem slB_eq {t : Nat} (h : slB P t = true) : ∃ e, P.underlying t = some (.slice e) := by
  unfold slB at h; split at h
  · exact ⟨_, ‹_›⟩
  · cases h
/-- A slice against nil. -/
def isNilS : Value → Value | .slice oa _ _ => .bool oa.isNone | v => v
theorem wl_eqlNilS {t u : TypeId} {x : Operand} {k m : Nat} (ht : slB P t = true) (hx : isS (a.eval x) = true)
    (h : WL P ops Q rest (a.put d (isNilS (a.eval x))) w) : WL P ops Q (⟨d, .binOp .eql t x (.const (.slice none k m)) u, ty, pos, af, none⟩ :: rest) a w := by
  obtain ⟨e, he⟩ := slB_eq ht
  cases hv : a.eval x with
  | slice oa i j =>
    rw [hv] at h
    refine wl_val rfl ?_ h
    simp [execOp, eqGuard, binOp, hv, eval_const, run_equal_nilS he, isNilS]
  | _ => rw [hv] at hx; cases hx
theorem wl_loadC {t : TypeId} {x : Operand} {p : Addr} {v : Value} (ht : scalB P t = true) (hx : a.eval x = .pointer (some p)) (hv : w.cell? p = some v)
    (h : WL P ops Q rest (a.put d v) w) : WL P ops Q (⟨d, .load t x, ty, pos, af, none⟩ :: rest) a w :=
  wl_val rfl (by simp [execOp, Instr.loadAt, Instr.sureAddr, loadVar, scalB_run ht, hx, hv]) h
/-- A whole array, as a slice. -/
def arrB (P : Program) (t n m : Nat) : Bool := match P.underlying t with | some (.array k e) => k == n && sizeB P e m | _ => false
theorem wl_sliceArr {t n : TypeId} {x : Operand} {b : Nat} (ht : arrB P t n 1 = true) (hx : a.eval x = .pointer (some ⟨b, 0, none⟩))
    (h : WL P ops Q rest (a.put d (.slice (some ⟨b, 0, none⟩) n n)) w) : WL P ops Q (⟨d, .slice t x none none none, ty, pos, af, none⟩ :: rest) a w := by
  unfold arrB at ht
  split at ht
  · rename_i k e he
    simp at ht
    obtain ⟨rfl, hs⟩ := ht
    have h1 := sizeB_run (P := P) hs w
    refine wl_val rfl ?_ h
    simp [execOp, Instr.sliceAt, underlying, he, hx, Instr.sureAddr, Instr.sliceBounds, h1, add_lit]
  · cases ht
theorem wl_not {t : TypeId} {x : Operand} (hx : isB (a.eval x) = true)
    (h : WL P ops Q rest (a.put d (notV (a.eval x))) w) : WL P ops Q (⟨d, .unOp .not t x, ty, pos, af, none⟩ :: rest) a w := by
  cases hv : a.eval x with
  | bool b => rw [hv] at h; refine wl_val rfl ?_ h; simp [execOp, hv, Op.unary, notV]
  | _ => rw [hv] at hx; cases hx
theorem wl_len {t : TypeId} {x : Operand} (ht : slB P t = true) (hx : isS (a.eval x) = true)
    (h : WL P ops Q rest (a.put d (lenV (a.eval x))) w) :
    WL P ops Q (⟨d, .call { callee := .builtin .len, args := #[x], argTypes := #[t] }, ty, pos, af, none⟩ :: rest) a w := by
  obtain ⟨e, he⟩ := slB_eq ht
  cases hv : a.eval x with
  | slice b n c => rw [hv] at h; refine wl_val rfl ?_ h; simp [execOp, resolve, invoke, builtin, hv, Builtin.len_, underlying, he, lenV, goInt]
  | _ => rw [hv] at hx; cases hx
theorem wl_lenS {t : TypeId} {x : Operand} (ht : strB P t = true) (hx : isStr (a.eval x) = true)
    (h : WL P ops Q rest (a.put d (lenV (a.eval x))) w) :
    WL P ops Q (⟨d, .call { callee := .builtin .len, args := #[x], argTypes := #[t] }, ty, pos, af, none⟩ :: rest) a w := by
  cases hv : a.eval x with
  | string s => rw [hv] at h; refine wl_val rfl ?_ h; simp [execOp, resolve, invoke, builtin, hv, Builtin.len_, underlying, strB_eq ht, lenV, goInt]
  | _ => rw [hv] at hx; cases hx
def and127 : Value → Value | .int k x => .int k (x % 128) | v => v
def or128 : Value → Value | .int k x => .int k (x + 128) | v => v
def orOK : Value → Prop | .int k x => 0 ≤ x ∧ x < 128 ∧ k.signed = false | _ => False
theorem toNat_ofInt (n : Nat) (x : Int) : ((BitVec.ofInt n x).toNat : Int) = x % 2 ^ n := by
  rw [BitVec.toNat_ofInt]
  have h : (0 : Int) < 2 ^ n := Int.pow_pos (by decide)
  have h2 := Int.emod_nonneg x (show (2 ^ n : Int) ≠ 0 by omega)
  have e : ((2 ^ n : Nat) : Int) = 2 ^ n := by simp
  rw [e]
  exact Int.toNat_of_nonneg h2
theorem wl_and127 {t u : TypeId} {x : Operand} {j : IntKind} (hk : sameK (a.eval x) (.int j 127) = true)
    (h : WL P ops Q rest (a.put d (and127 (a.eval x))) w) : WL P ops Q (⟨d, .binOp .and t x (.const (.int j 127)) u, ty, pos, af, none⟩ :: rest) a w := by
  cases hv : a.eval x with
  | int k n =>
    rw [hv] at hk h
    simp [sameK] at hk; subst hk
    refine wl_val rfl ?_ h
    have e : ((BitVec.ofInt k.bits n &&& BitVec.ofInt k.bits 127).toNat : Int) = n % 128 := by
      have h1 := toNat_ofInt k.bits n
      have h2 : (BitVec.ofInt k.bits 127).toNat = 2 ^ 7 - 1 := by cases k <;> rfl
      rw [BitVec.toNat_and, h2, Nat.and_two_pow_sub_one_eq_mod]
      have : ((2 : Int) ^ k.bits) % 128 = 0 := by cases k <;> rfl
      have hd : (128 : Int) ∣ 2 ^ k.bits := Int.dvd_of_emod_eq_zero this
      rw [Int.natCast_emod, h1]
      exact Int.emod_emod_of_dvd n hd
    have e2 : k.wrap (n % 128) = n % 128 := by
      have a1 : 0 ≤ n % 128 := by omega
      have a2 : n % 128 < 128 := by omega
      generalize n % 128 = m at a1 a2
      cases k <;> simp [IntKind.wrap, IntKind.bits, IntKind.signed] <;> omega
    simp only [execOp, eqGuard, binOp, hv, eval_const, Op.intBits, and127]
    simp [-BitVec.toNat_and, -BitVec.toNat_ofInt, -BitVec.ofInt_ofNat, e, e2]
  | _ => rw [hv] at hk; cases hk
theorem wl_or128 {t u : TypeId} {x : Operand} {j : IntKind} (hk : sameK (a.eval x) (.int j 128) = true) (ho : orOK (a.eval x))
    (h : WL P ops Q rest (a.put d (or128 (a.eval x))) w) : WL P ops Q (⟨d, .binOp .or t x (.const (.int j 128)) u, ty, pos, af, none⟩ :: rest) a w := by
  cases hv : a.eval x with
  | int k n =>
    rw [hv] at hk h ho
    simp [sameK] at hk; subst hk
    obtain ⟨a1, a2, a3⟩ := ho
    refine wl_val rfl ?_ h
    have hb : (8 : Nat) ≤ k.bits := by cases k <;> decide
    have e : ((BitVec.ofInt k.bits n ||| BitVec.ofInt k.bits 128).toNat : Int) = n + 128 := by
      have h1 := toNat_ofInt k.bits n
      have hn : n % 2 ^ k.bits = n := by
        refine Int.emod_eq_of_lt a1 (Int.lt_of_lt_of_le a2 ?_)
        cases k <;> decide
      rw [hn] at h1
      have h2 : (BitVec.ofInt k.bits 128).toNat = 2 ^ 7 := by cases k <;> first | rfl | (simp [IntKind.signed] at a3)
      rw [BitVec.toNat_or, h2, Nat.or_comm]
      have := Nat.two_pow_add_eq_or_of_lt (i := 7) (b := (BitVec.ofInt k.bits n).toNat) (by omega) 1
      rw [Nat.mul_one] at this
      rw [← this]
      omega
    have e2 : k.wrap (n + 128) = n + 128 := by
      cases k <;> simp [IntKind.signed] at a3 <;> simp [IntKind.wrap, IntKind.bits, IntKind.signed] <;> omega
    simp only [execOp, eqGuard, binOp, hv, eval_const, Op.intBits, or128]
    simp [-BitVec.toNat_or, -BitVec.toNat_ofInt, -BitVec.ofInt_ofNat, e, e2]
  | _ => rw [hv] at hk; cases hk
/-- An octet of a constant text. -/
theorem wl_indexC {t : TypeId} {s : ByteArray} {y : Operand} {k : IntKind} {i m : Nat} (tab : Nat → Nat) (ht : strB P t = true) (hy : a.eval y = .int k i) (hi : i < m)
    (hb : ∀ j, j < m → (s[j]?).map (·.toNat) = some (tab j)) (h : WL P ops Q rest (a.put d (.int .u8 (tab i))) w) :
    WL P ops Q (⟨d, .index t (.const (.string s)) y, ty, pos, af, none⟩ :: rest) a w := by
  have := hb i hi
  cases hs : s[i]? with
  | none => rw [hs] at this; cases this
  | some b =>
    rw [hs] at this
    simp at this
    rw [← this] at h
    refine wl_val rfl ?_ h
    simp [execOp, Instr.index, hy, eval_const, asIntOf, underlying, strB_eq ht, hs]
theorem wl_pick {c x y : Operand} {b : Bool} (hc : a.eval c = .bool b) (h : WL P ops Q rest (a.put d (if b then a.eval x else a.eval y)) w) :
    WL P ops Q (⟨d, .pick c x y, ty, pos, af, none⟩ :: rest) a w :=
  wl_val rfl (by simp [execOp, hc, asBool]) h

/-- A guarded operation. -/
theorem wl_gyes {o : Op} {g : Nat × Bool} (hw : yielded ops a.tmps g.1 = some g.2) (h : WL P ops Q (⟨d, o, ty, pos, af, none⟩ :: rest) a w) :
    WL P ops Q (⟨d, o, ty, pos, af, some g⟩ :: rest) a w := by
  obtain ⟨h⟩ := h
  refine ⟨?_⟩
  unfold wpList at h ⊢
  have e1 : Region.wanted ⟨d, o, ty, pos, af, none⟩ (yielded ops a.tmps) = true := rfl
  have e2 : Region.wanted ⟨d, o, ty, pos, af, some g⟩ (yielded ops a.tmps) = true := by simp [Region.wanted, hw]
  rw [if_pos e1] at h
  rw [if_pos e2]
  exact h
theorem wl_gno {o : Op} {g : Nat × Bool} (hw : yielded ops a.tmps g.1 ≠ some g.2) (h : WL P ops Q rest (a.put d undef) w) :
    WL P ops Q (⟨d, o, ty, pos, af, some g⟩ :: rest) a w := by
  refine ⟨?_⟩
  unfold wpList
  have e2 : ¬ (Region.wanted ⟨d, o, ty, pos, af, some g⟩ (yielded ops a.tmps) = true) := by simp [Region.wanted]; exact hw
  rw [if_neg e2]
  exact h.out
theorem yielded_get {j t : Nat} {o : Oper} {b : Bool} (ho : ops[j]? = some o) (hd : o.dst = some t) (hv : get a t = .bool b) : yielded ops a.tmps j = some b := by
  unfold get at hv
  have : a.tmps[t]? = some (.bool b) := by
    rw [Array.getD_eq_getD_getElem?] at hv
    cases h : a.tmps[t]? with
    | none => rw [h] at hv; cases hv
    | some x => rw [h] at hv; simp at hv; rw [hv]
  simp [yielded, ho, hd, this]

theorem wl_gyesB {op : Op} {g : Nat × Bool} {o : Oper} {t : Nat} (hi : ops[g.1]? = some o) (hd : o.dst = some t) (hv : get a t = .bool g.2) (h : WL P ops Q (⟨d, op, ty, pos, af, none⟩ :: rest) a w) :
    WL P ops Q (⟨d, op, ty, pos, af, some g⟩ :: rest) a w := wl_gyes (yielded_get hi hd hv) h
theorem wl_gnoB {op : Op} {g : Nat × Bool} {o : Oper} {t : Nat} (hi : ops[g.1]? = some o) (hd : o.dst = some t) (hv : get a t = .bool (!g.2)) (h : WL P ops Q rest (a.put d undef) w) :
    WL P ops Q (⟨d, op, ty, pos, af, some g⟩ :: rest) a w := wl_gno (by rw [yielded_get hi hd hv]; cases g.2 <;> simp) h
theorem yielded_undef {j t : Nat} {o : Oper} (ho : ops[j]? = some o) (hd : o.dst = some t) (hv : get a t = undef) : yielded ops a.tmps j = none := by
  unfold get at hv
  rw [Array.getD_eq_getD_getElem?] at hv
  cases h : a.tmps[t]? with
  | none => simp [yielded, ho, hd, h]
  | some x => rw [h] at hv; simp at hv; subst hv; simp [yielded, ho, hd, h, undef]
theorem wl_gnoU {op : Op} {g : Nat × Bool} {o : Oper} {t : Nat} (hi : ops[g.1]? = some o) (hd : o.dst = some t) (hv : get a t = undef) (h : WL P ops Q rest (a.put d undef) w) :
    WL P ops Q (⟨d, op, ty, pos, af, some g⟩ :: rest) a w := wl_gno (by rw [yielded_undef hi hd hv]; simp) h
theorem wl_pickT {c x y : Operand} (hc : a.eval c = .bool true) (h : WL P ops Q rest (a.put d (a.eval x)) w) : WL P ops Q (⟨d, .pick c x y, ty, pos, af, none⟩ :: rest) a w := wl_pick hc h
theorem wl_pickF {c x y : Operand} (hc : a.eval c = .bool false) (h : WL P ops Q rest (a.put d (a.eval y)) w) : WL P ops Q (⟨d, .pick c x y, ty, pos, af, none⟩ :: rest) a w := wl_pick hc h
/-- A new block for a value. -/
theorem wl_box {t : TypeId} {x : Operand} (h : WL P ops Q rest (a.put d (.pointer (some ⟨w.heap.size, 0, none⟩))) (w.alloc (.cells (a.eval x).cells t))) :
    WL P ops Q (⟨d, .box t x, ty, pos, af, none⟩ :: rest) a w :=
  wl_val rfl (by simp [execOp, Instr.box, newVar, newRow]) h

def zeroB (P : Program) (t : Nat) (z : Value) : Prop := ∀ w, (zeroValue t).run P w = .ok z w
theorem zeroB_run {t : Nat} {z : Value} (h : zeroB P t z) : (zeroValue t).run P w = .ok z w := h w
theorem wl_alloc {t : TypeId} {z : Value} (hz : zeroB P t z) (h : WL P ops Q rest (a.put d (.pointer (some ⟨w.heap.size, 0, none⟩))) (w.alloc (.cells z.cells t))) :
    WL P ops Q (⟨d, .alloc t, ty, pos, af, none⟩ :: rest) a w :=
  wl_val rfl (by simp [execOp, Instr.alloc, newVar, newRow, zeroB_run hz]) h

/-- The address of an element. -/
theorem run_indexAt {T n b o len cap : Nat} {k : IntKind} {i : Nat} (hT : sliceB P T n = true) (hi : i < len) :
    (Instr.indexAt T (.slice (some ⟨b, o, none⟩) len cap) (.int k i)).run P w = .ok (.pointer (some ⟨b, o + i * n, none⟩)) w := by
  obtain ⟨e, he, hs⟩ := sliceB_eq hT
  have h1 := sizeB_run (P := P) hs w
  simp [Instr.indexAt, asIntOf, underlying, he, h1, hi, add_lit]
theorem wl_indexAddr {T n b o len cap : Nat} {k : IntKind} {i : Nat} {x y : Operand} (hT : sliceB P T n = true) (hx : a.eval x = .slice (some ⟨b, o, none⟩) len cap) (hy : a.eval y = .int k i) (hi : i < len)
    (h : WL P ops Q rest (a.put d (.pointer (some ⟨b, o + i * n, none⟩))) w) : WL P ops Q (⟨d, .indexAddr T x y, ty, pos, af, none⟩ :: rest) a w :=
  wl_val rfl (by simp only [execOp, Sem.run_bind, hx, hy, run_indexAt hT hi]; rfl) h

end

/-! ### Octets -/

/-- An octet, as a cell. -/
def byteV (u : UInt8) : Value := .int .u8 u.toNat

theorem byteV_one (bs : List UInt8) : ∀ v ∈ bs.map byteV, v.oneCell' = true := by
  intro v hv; obtain ⟨u, _, rfl⟩ := List.mem_map.1 hv; rfl

/-- t is the type of slices of octets, e that of octets. -/
structure ByteSl (P : Program) (t e : TypeId) : Prop where
  ht : P.underlying t = some (.slice e)
  he : P.underlying e = some (.int .u8)
  hi : ∃ i, P.info? e = some i ∧ i.size = 1 ∧ i.bytes = 1 ∧ i.zero = some (.int .u8 0)

theorem ByteSl.sl {P : Program} {t e : TypeId} (h : ByteSl P t e) : sliceB P t 1 = true := by
  obtain ⟨i, h1, h2, _⟩ := h.hi
  simp [sliceB, h.ht, sizeB, h1, h2]

/-- The octets lie where the slice begins, in a block that G allows. -/
def BytesAt (w : World) (G : Nat → Prop) (oa : Option Addr) (bs : List UInt8) : Prop :=
  bs = [] ∨ ∃ b o l T, oa = some ⟨b, o, none⟩ ∧ G b ∧ Blk w b l T ∧ (l.drop o).take bs.length = bs.map byteV

theorem BytesAt.nil (w : World) (G : Nat → Prop) (oa : Option Addr) : BytesAt w G oa [] := .inl rfl
theorem BytesAt.chg {w w' : World} {G X : Nat → Prop} {oa : Option Addr} {bs : List UInt8} (h : BytesAt w G oa bs) (c : Chg X w w') (hx : ∀ g, G g → g < w.heap.size → ¬ X g) : BytesAt w' G oa bs := by
  rcases h with h | ⟨b, o, l, T, h1, h2, h3, h4⟩
  · exact .inl h
  · exact .inr ⟨b, o, l, T, h1, h2, h3.chg c (hx b h2 h3.lt), h4⟩
theorem BytesAt.mono {w : World} {G H : Nat → Prop} {oa : Option Addr} {bs : List UInt8} (h : BytesAt w G oa bs) (hg : ∀ g, G g → g < w.heap.size → H g) : BytesAt w H oa bs := by
  rcases h with h | ⟨b, o, l, T, h1, h2, h3, h4⟩
  · exact .inl h
  · exact .inr ⟨b, o, l, T, h1, hg b h2 h3.lt, h3, h4⟩
theorem BytesAt.cells {w : World} {G : Nat → Prop} {a : Addr} {bs : List UInt8} (h : BytesAt w G (some a) bs) : ∀ j u, (bs.map byteV)[j]? = some u → w.cell? (a.add j) = some u := by
  intro j u hj
  rcases h with rfl | ⟨b, o, l, T, h1, h2, h3, h4⟩
  · simp at hj
  · simp at h1; subst h1
    have hjn : j < bs.length := by have := (List.getElem?_eq_some_iff.1 hj).1; simpa using this
    rw [add_lit, h3.cell, ← seg_get hjn, h4]; exact hj
/-- What lies behind the first n octets. -/
theorem BytesAt.drop {w : World} {G : Nat → Prop} {b o : Nat} {bs : List UInt8} (h : BytesAt w G (some ⟨b, o, none⟩) bs) (n : Nat) : BytesAt w G (some ⟨b, o + n, none⟩) (bs.drop n) := by
  rcases h with rfl | ⟨b', o', l, T, h1, h2, h3, h4⟩
  · left; simp
  · simp at h1; obtain ⟨rfl, rfl⟩ := h1
    refine .inr ⟨b, o + n, l, T, rfl, h2, h3, ?_⟩
    have := congrArg (List.drop n) h4
    rw [List.drop_take, List.drop_drop, ← List.map_drop] at this
    rw [List.length_drop]; exact this
theorem BytesAt.take {w : World} {G : Nat → Prop} {oa : Option Addr} {bs : List UInt8} (h : BytesAt w G oa bs) (n : Nat) : BytesAt w G oa (bs.take n) := by
  rcases h with rfl | ⟨b', o', l, T, h1, h2, h3, h4⟩
  · left; simp
  · refine .inr ⟨b', o', l, T, h1, h2, h3, ?_⟩
    rw [List.length_take, ← List.take_take, h4, List.map_take]

/-- A buffer of octets that the call itself made, from block 'base' on. -/
def Own (e : TypeId) (w : World) (base : Nat) (v : Value) (bs : List UInt8) : Prop := w.ownsRow base e 1 v bs.length (bs.map byteV)

theorem Own.nil (e : TypeId) (w : World) (base : Nat) : Own e w base (.slice none 0 0) [] := World.ownsRow_nil w base e 1
theorem Own.chg {e : TypeId} {w w' : World} {base : Nat} {v : Value} {bs : List UInt8} {X : Nat → Prop} (h : Own e w base v bs) (c : Chg X w w') (hx : ∀ k, v.ownBlock = some k → ¬ X k) : Own e w' base v bs := by
  refine ⟨h.1, ?_⟩
  rcases h.2 with hn | ⟨g, cap, cur, rfl, hb, hg, rest⟩
  · exact .inl hn
  · exact .inr ⟨g, cap, cur, rfl, hb, (c.block g (Array.getElem?_eq_some_iff.1 hg).1 (hx g rfl)).trans hg, rest⟩
theorem Own.isS {e : TypeId} {w : World} {base : Nat} {v : Value} {bs : List UInt8} (h : Own e w base v bs) : isS v = true := by
  rcases h.2 with ⟨rfl, _⟩ | ⟨g, cap, cur, rfl, _⟩ <;> rfl
theorem Own.lenV {e : TypeId} {w : World} {base : Nat} {v : Value} {bs : List UInt8} (h : Own e w base v bs) : lenV v = .int .i64 bs.length := by
  rcases h.2 with ⟨rfl, h0⟩ | ⟨g, cap, cur, rfl, _⟩
  · simp only [Go.Proofs.Ytkhmglikdlgfpaa.lenV, h0]
  · rfl
theorem Own.lt {e : TypeId} {w : World} {base : Nat} {v : Value} {bs : List UInt8} (h : Own e w base v bs) : ∀ k, v.ownBlock = some k → base ≤ k ∧ k < w.heap.size := World.ownsRow.lt h
theorem Own.mono {e : TypeId} {w : World} {base base' : Nat} {v : Value} {bs : List UInt8} (h : Own e w base v bs) (hb : base' ≤ base) : Own e w base' v bs := by
  refine ⟨h.1, ?_⟩
  rcases h.2 with hn | ⟨g, cap, cur, rfl, hbg, rest⟩
  · exact .inl hn
  · exact .inr ⟨g, cap, cur, rfl, by omega, rest⟩
/-- A buffer, as octets that are read. -/
theorem Own.bytes {e : TypeId} {w : World} {base : Nat} {v : Value} {bs : List UInt8} (h : Own e w base v bs) :
    ∃ oa cap, v = .slice oa bs.length cap ∧ bs.length ≤ cap ∧ BytesAt w (fun k => v.ownBlock = some k) oa bs := by
  rcases h.2 with ⟨rfl, h0⟩ | ⟨g, cap, cur, rfl, _, hg, hn, _, hcs, ht⟩
  · have : bs = [] := List.eq_nil_of_length_eq_zero h0
    subst this
    exact ⟨none, 0, rfl, Nat.le_refl _, .inl rfl⟩
  · exact ⟨some ⟨g, 0, none⟩, cap, rfl, hn, .inr ⟨g, 0, cur.toList, e, rfl, rfl, by unfold Blk; simpa using hg, by simpa using ht⟩⟩

/-- What an append leaves: the buffer, longer; nothing else turned. -/
structure App (e : TypeId) (w : World) (base : Nat) (v : Value) (bs : List UInt8) (v' : Value) (w' : World) : Prop where
  own : Own e w' base v' bs
  chg : Chg (fun k => v.ownBlock = some k) w w'
  blk : v'.ownBlock = v.ownBlock ∨ ∃ k, v'.ownBlock = some k ∧ w.heap.size ≤ k

/-- The longest buffer. -/
def LIM : Nat := 1099511627776

theorem run_appendBytes {P : Program} {t e : TypeId} (hT : ByteSl P t e) (ty : TypeId) {w : World} {base : Nat} {v : Value} {bs bs' : List UInt8} {G : Nat → Prop} {oa : Option Addr} {c : Nat}
    (hown : Own e w base v bs) (hsrc : BytesAt w G oa bs') (hl : bs.length + bs'.length ≤ LIM) (hb : base ≤ w.heap.size) :
    ∃ v' w', (Builtin.append_ #[t, t] ty #[v, .slice oa bs'.length c]).run P w = .ok v' w' ∧ App e w base v (bs ++ bs') v' w' := by
  obtain ⟨i, hi, h1, h2, h3⟩ := hT.hi
  unfold LIM at hl
  cases oa with
  | none =>
    have hbs : bs' = [] := by
      rcases hsrc with h | ⟨b, o, l, T, h, _⟩
      · exact h
      · cases h
    subst hbs
    refine ⟨v, w, ?_, by simpa using hown, Chg.refl _ _, .inl rfl⟩
    have hcap : ∃ oa' n' c', v = .slice oa' n' c' ∧ n' ≤ c' := by
      rcases hown.2 with ⟨rfl, h0⟩ | ⟨g, cap, cur, rfl, _, _, hn, _⟩
      · exact ⟨_, _, _, rfl, Nat.le_refl _⟩
      · exact ⟨_, _, _, rfl, hn⟩
    obtain ⟨oa', n', c', rfl, hn'⟩ := hcap
    cases oa' <;> simp [Builtin.append_, underlying, hT.ht, sizeOf, typeInfo, hi, Builtin.lenOf, hn', Builtin.firstCells, storeCells]
  | some a =>
    obtain ⟨v', w', hr, ho, hg, hnil⟩ := run_append_own (P := P) w base t ty e i (.int .u8 0) 1 1 hT.ht hi h3 h1 h2 rfl (by omega) v bs.length (bs.map byteV) hown a bs'.length c (bs'.map byteV) (by simp) hsrc.cells (byteV_one bs') (by unfold maxLen; omega) (by omega) hb
    refine ⟨v', w', hr, ?_, ?_, ?_⟩
    · unfold Own; rw [List.length_append, List.map_append]; exact ho
    · exact (Chg.ofGrown hg).mono fun k _ hk => hk.symm
    · rcases hown.2 with ⟨rfl, h0⟩ | ⟨g, cap, cur, rfl, hbg, hgg, hnc, hcm, hcs, ht⟩
      · have hbs : bs = [] := List.eq_nil_of_length_eq_zero h0
        subst hbs
        obtain ⟨v2, w2, hr2, ho2, _, _⟩ := run_append_own (P := P) w w.heap.size t ty e i (.int .u8 0) 1 1 hT.ht hi h3 h1 h2 rfl (by omega) (.slice none 0 0) 0 [] (World.ownsRow_nil w _ e 1) a bs'.length c (bs'.map byteV) (by simp) hsrc.cells (byteV_one bs') (by unfold maxLen; omega) (by omega) (Nat.le_refl _)
        rw [hr] at hr2
        simp only [Result.ok.injEq] at hr2
        obtain ⟨rfl, rfl⟩ := hr2
        rcases ho2.2 with ⟨rfl, _⟩ | ⟨g, cap, cur, rfl, hb', _⟩
        · left; rfl
        · right; exact ⟨g, rfl, hb'⟩
      · by_cases hroom : bs.length + bs'.length ≤ cap
        · have hr2 := run_append_room (P := P) w t ty e i hT.ht hi g bs.length cap cur hgg a bs'.length c (bs'.map byteV) (by simp [h1]) hsrc.cells (byteV_one bs') hroom (by simp [h1]; omega)
          rw [hr] at hr2
          simp only [Result.ok.injEq] at hr2
          obtain ⟨rfl, _⟩ := hr2
          left; rfl
        · have holds : ∀ j u, (bs.map byteV)[j]? = some u → w.cell? ((⟨g, 0, none⟩ : Addr).add j) = some u := World.ownsRow.cells (g := g) hown rfl
          have hr2 := run_append_grow (P := P) w t ty e i (.int .u8 0) hT.ht hi h3 ⟨g, 0, none⟩ bs.length cap (bs.map byteV) (by simp [h1]) holds a bs'.length c (bs'.map byteV) (by simp [h1]) hsrc.cells (by omega) (by omega) (by rw [h2]; exact growslice_fits (by omega) (by omega))
          rw [hr] at hr2
          simp only [Result.ok.injEq] at hr2
          obtain ⟨rfl, _⟩ := hr2
          right; exact ⟨_, rfl, Nat.le_refl _⟩

/-- An append of octets, as an operation. -/
theorem wl_append {P : Program} {ops : Array Oper} {Q : Exit → Act → World → Prop} {a : Act} {w : World} {rest : List Oper} {d : Option Nat} {ty : TypeId} {pos : String} {af : Array Edge}
    {t e : TypeId} (hT : ByteSl P t e) {x y : Operand} {base : Nat} {v : Value} {bs bs' : List UInt8} {G : Nat → Prop} {oa : Option Addr} {c : Nat}
    (hx : a.eval x = v) (hy : a.eval y = .slice oa bs'.length c) (hown : Own e w base v bs) (hsrc : BytesAt w G oa bs') (hl : bs.length + bs'.length ≤ LIM) (hb : base ≤ w.heap.size)
    (h : ∀ v' w', App e w base v (bs ++ bs') v' w' → WL P ops Q rest (a.put d v') w') :
    WL P ops Q (⟨d, .call { callee := .builtin .append, args := #[x, y], argTypes := #[t, t] }, ty, pos, af, none⟩ :: rest) a w := by
  obtain ⟨v', w', hr, ha⟩ := run_appendBytes (c := c) hT ty hown hsrc hl hb
  exact wl_val rfl (by simp [execOp, resolve, invoke, builtin, hx, hy, hr]) (h v' w' ha)

theorem App.chgFrom {e : TypeId} {w w' : World} {base : Nat} {v v' : Value} {bs bs' : List UInt8} (h : App e w base v bs' v' w') (ho : Own e w base v bs) : Chg (fun k => base ≤ k) w w' :=
  h.chg.mono fun k _ hk => (ho.lt k hk).1

/-- A literal slice of octets. -/
theorem wl_bytesLit {P : Program} {ops : Array Oper} {Q : Exit → Act → World → Prop} {a : Act} {w : World} {rest : List Oper} {d : Option Nat} {ty : TypeId} {pos : String} {af : Array Edge}
    {t e : TypeId} {n : Nat} {parts : Array (Nat × Operand)} {bs : List UInt8}
    (hr : (Instr.buildSlice t n (parts.map fun (i, x) => (i, a.eval x))).run P w = .ok (.slice (some ⟨w.heap.size, 0, none⟩) bs.length bs.length) (w.alloc (.cells (bs.map byteV).toArray e)))
    (h : ∀ w', Chg (fun _ => False) w w' → BytesAt w' (fun g => g = w.heap.size) (some ⟨w.heap.size, 0, none⟩) bs → WL P ops Q rest (a.put d (.slice (some ⟨w.heap.size, 0, none⟩) bs.length bs.length)) w') :
    WL P ops Q (⟨d, .buildSlice t n parts, ty, pos, af, none⟩ :: rest) a w :=
  wl_val rfl (by simp only [execOp, Sem.run_bind, hr]; rfl) (h _ (Chg.alloc _ _ _) (.inr ⟨_, 0, _, e, rfl, rfl, Blk.new _ _ _, by simp [← List.map_take]⟩))

/-! ### Literals of slices -/

theorem set_splice {l : List Value} {i : Nat} {v : Value} (h : i < l.length) : l.set i v = splice l i [v] := by
  unfold splice
  rw [List.set_eq_take_append_cons_drop, if_pos h]
  simp
theorem splice_splice {l : List Value} {i : Nat} {xs ys : List Value} (h : i + xs.length + ys.length ≤ l.length) : splice (splice l i xs) (i + xs.length) ys = splice l i (xs ++ ys) := by
  unfold splice
  have e1 : (l.take i ++ xs).length = i + xs.length := by simp; omega
  rw [List.take_append_of_le_length (by omega), List.take_of_length_le (by omega)]
  rw [List.drop_append, List.drop_of_length_le (by omega), e1]
  simp only [List.nil_append, List.drop_drop, List.length_append, List.append_assoc]
  congr 4
  omega

theorem foldl_set : ∀ (l : List Value) (off j : Nat) (cs : Array Value), off + j + l.length ≤ cs.size →
    (l.zipIdx j).foldl (fun (cs : Array Value) (x : Value × Nat) => cs.setIfInBounds (off + x.2) x.1) cs = (splice cs.toList (off + j) l).toArray
  | [], off, j, cs, _ => by simp [splice]
  | v :: r, off, j, cs, h => by
    simp only [List.length_cons] at h
    simp only [List.zipIdx_cons, List.foldl_cons]
    rw [foldl_set r off (j + 1) (cs.setIfInBounds (off + j) v) (by simp; omega)]
    rw [Array.toList_setIfInBounds, set_splice (by simp; omega), ← Nat.add_assoc]
    exact congrArg List.toArray (splice_splice (xs := [v]) (by simp; omega))

theorem flat_len {sz : Nat} : ∀ (xs : List Value), (∀ v ∈ xs, v.cells.size = sz) → (xs.flatMap (·.cells.toList)).length = xs.length * sz
  | [], _ => by simp
  | v :: r, h => by
    have hv : v.cells.size = sz := h v List.mem_cons_self
    have ih := flat_len r fun x hx => h x (List.mem_cons_of_mem _ hx)
    rw [List.flatMap_cons, List.length_append, ih, List.length_cons, Nat.add_mul, Array.length_toList, hv]; omega

theorem fill_all (sz : Nat) : ∀ (xs : List Value) (k : Nat) (cs : Array Value), (∀ v ∈ xs, v.cells.size = sz) → (k + xs.length) * sz ≤ cs.size →
    Instr.fill (fun i => some (i * sz, sz)) cs ((xs.zipIdx k).map fun x => (x.2, x.1)) = some (splice cs.toList (k * sz) (xs.flatMap (·.cells.toList))).toArray
  | [], k, cs, _, _ => by simp [Instr.fill, splice]
  | v :: r, k, cs, h, hs => by
    have hv : v.cells.size = sz := h v (by simp)
    simp only [List.length_cons] at hs
    have e : (k + (r.length + 1)) * sz = k * sz + sz + r.length * sz := by rw [Nat.add_mul, Nat.add_mul]; omega
    have hk : k * sz + sz ≤ cs.size := by omega
    simp only [List.zipIdx_cons, List.map_cons, Instr.fill]
    rw [if_neg (by simp [hv]; omega)]
    have hf : v.cells.zipIdx.foldl (fun (cs : Array Value) (x : Value × Nat) => cs.setIfInBounds (k * sz + x.2) x.1) cs = (splice cs.toList (k * sz) v.cells.toList).toArray := by
      have := foldl_set v.cells.toList (k * sz) 0 cs (by simp [hv]; omega)
      rw [Nat.add_zero] at this
      rw [← this, ← Array.foldl_toList, Array.toList_zipIdx]
    rw [hf]
    have hl : (splice cs.toList (k * sz) v.cells.toList).length = cs.size := by rw [splice_length (by simp [hv]; omega)]; simp
    have hr : ∀ x ∈ r, x.cells.size = sz := fun x hx => h x (List.mem_cons_of_mem _ hx)
    have e3 : (k + 1 + r.length) * sz = k * sz + sz + r.length * sz := by rw [Nat.add_mul, Nat.add_mul]; omega
    rw [fill_all sz r (k + 1) _ hr (by simp only [List.size_toArray, hl]; omega)]
    have e2 : (k + 1) * sz = k * sz + v.cells.toList.length := by simp [hv, Nat.add_mul]
    simp only [List.flatMap_cons]
    rw [e2, splice_splice]
    rw [flat_len r hr]; simp [hv]; omega

theorem run_buildSlice {P : Program} {w : World} {t e sz : Nat} {z : Value} (ht : P.underlying t = some (.slice e)) (hs : sizeB P e sz = true) (hz : ∀ w, (zeroValue e).run P w = .ok z w) (xs : List Value)
    (h1 : ∀ v ∈ xs, v.cells.size = sz) (hn : xs.length * sz ≤ 16777216) (h0 : 0 < sz) :
    (Instr.buildSlice t xs.length (xs.zipIdx.map fun x => (x.2, x.1)).toArray).run P w = .ok (.slice (some ⟨w.heap.size, 0, none⟩) xs.length xs.length) (w.alloc (.cells (xs.flatMap (·.cells.toList)).toArray e)) := by
  have hl := flat_len xs h1
  have key : ∀ cs : Array Value, cs.size = xs.length * sz → Instr.fill (fun i => some (i * sz, sz)) cs (xs.zipIdx.map fun x => (x.2, x.1)) = some (xs.flatMap (·.cells.toList)).toArray := by
    intro cs hcs
    rw [fill_all sz xs 0 cs h1 (by simp [hcs])]
    congr 2
    unfold splice
    simp only [Nat.zero_mul, List.take_zero, List.nil_append, Nat.zero_add]
    rw [List.drop_of_length_le (by simp [hl, hcs])]
    simp
  have hs' := sizeB_run (P := P) hs
  by_cases hx : xs.length * sz = 0
  · have k := key ((Array.range (xs.length * sz)).map fun x => (#[] : Array Value)[x % 0]!) (by simp)
    have k' : Instr.fill (fun i => some (i * sz, sz)) #[] (xs.zipIdx.map fun x => (x.2, x.1)) = some (xs.flatMap (·.cells.toList)).toArray := key #[] (by simp [hx])
    have hxs : xs = [] := by
      rcases xs with _ | ⟨x, r⟩
      · rfl
      · simp only [List.length_cons, Nat.add_mul] at hx; omega
    subst hxs
    have ea : (Array.map (fun _ : Nat => (default : Value)) (Array.range 0)) = #[] := by simp
    simp [Instr.buildSlice, underlying, ht, hs', Instr.fill, newRow]
    rw [show (Array.map (fun _ : Nat => (default : Value)) (Array.range 0)) = #[] from by simp [Array.range]]
  · simp only [Instr.buildSlice, Sem.run_bind, underlying, run_program, Result.andThen_ok, ht, Sem.run_pure, hs', if_neg (show ¬ (xs.length * sz > 2 ^ 24) by omega), if_neg hx, hz]
    rw [key _ (by simp)]
    simp [newRow]

/-! ### Bundles of equations for simp -/

theorem evb : (∀ h : Decidable True, @decide True h = true) ∧ (∀ h : Decidable False, @decide False h = false) ∧ ((!true) = false) ∧ ((!false) = true) ∧
    (∀ (a : Act) (t : Nat), a.eval (.tmp t) = get a t) ∧ (∀ (a : Act) (v : Value), a.eval (.const v) = v) ∧ (∀ (a : Act) (f : Nat), a.eval (.func f) = .func (.func f) #[] #[]) ∧ (∀ (a : Act) (g : Nat), a.eval (.global g) = .pointer (some ⟨g, 0, none⟩)) ∧
    (∀ {a : Act} {d t : Nat} {v : Value}, d < a.tmps.size → get (a.put (some d) v) t = if d = t then v else get a t) ∧ (∀ (a : Act) (d : Option Nat) (v : Value), (a.put d v).tmps.size = a.tmps.size) ∧ (∀ (a : Act) (v : Value), a.put none v = a) ∧
    (∀ (k j : IntKind) (n : Int), cvt k (.int j n) = .int k (k.wrap n)) ∧ (∀ (k j : IntKind) (x y : Int), add2 (.int k x) (.int j y) = .int k (k.wrap (x + y))) ∧ (∀ (k j : IntKind) (x y : Int), sub2 (.int k x) (.int j y) = .int k (k.wrap (x - y))) ∧
    (∀ (f : Int → Int → Bool) (k j : IntKind) (x y : Int), cmp2 f (.int k x) (.int j y) = .bool (f x y)) ∧ (∀ (c : Nat) (k : IntKind) (x : Int), shrV c (.int k x) = .int k (x / (2 ^ min c k.bits))) ∧ (∀ b : Bool, notV (.bool b) = .bool !b) ∧
    (∀ (oa : Option Addr) (n c : Nat), lenV (.slice oa n c) = .int .i64 n) ∧ (∀ s : ByteArray, lenV (.string s) = .int .i64 s.size) ∧ (∀ (k : IntKind) (x : Int), and127 (.int k x) = .int k (x % 128)) ∧ (∀ (k : IntKind) (x : Int), or128 (.int k x) = .int k (x + 128)) :=
  ⟨fun h => by cases h with | isTrue _ => rfl | isFalse n => exact absurd trivial n, fun h => by cases h with | isTrue p => exact p.elim | isFalse _ => rfl, rfl, rfl, eval_tmp, eval_const, eval_func, eval_global, get_put, size_put, put_none, fun _ _ _ => rfl, fun _ _ _ _ => rfl, fun _ _ _ _ => rfl, fun _ _ _ _ _ => rfl, fun _ _ _ => rfl, fun _ => rfl, fun _ _ _ => rfl, fun _ => rfl, fun _ _ => rfl, fun _ _ => rfl⟩
theorem sdb : (∀ (k : IntKind) (n : Int), isI (.int k n) = true) ∧ (∀ (j k : IntKind) (x y : Int), sameK (.int j x) (.int k y) = decide (j = k)) ∧ (∀ b : Bool, isB (.bool b) = true) ∧ (∀ (oa : Option Addr) (n c : Nat), isLen (.slice oa n c) = true) ∧ (∀ s : ByteArray, isLen (.string s) = true) ∧
    (∀ (oa : Option Addr) (n c : Nat), isS (.slice oa n c) = true) ∧ (∀ s : ByteArray, isStr (.string s) = true) ∧ (∀ (k : IntKind) (x : Int), orOK (.int k x) = (0 ≤ x ∧ x < 128 ∧ k.signed = false)) ∧
    IntKind.u8.signed = false ∧ IntKind.u16.signed = false ∧ IntKind.u32.signed = false ∧ IntKind.u64.signed = false :=
  ⟨fun _ _ => rfl, fun _ _ _ _ => rfl, fun _ => rfl, fun _ _ _ => rfl, fun _ => rfl, fun _ _ _ => rfl, fun _ => rfl, fun _ _ => rfl, rfl, rfl, rfl, rfl⟩
theorem wl_id {P : Program} {ops : Array Oper} {Q : Exit → Act → World → Prop} {a : Act} {w : World} {l : List Oper} (h : WL P ops Q l a w) : WL P ops Q l a w := h

end Go.Proofs.Ytkhmglikdlgfpaa
