import Derived.Test.YtnjjfpgpookjlaaGreatDoorZA
/-
What the proofs of the laws rest on, part ZL.
-/
namespace Go.Proofs.YtnjjfpgpookjlaaGreatDoor
set_option linter.all false
set_option linter.all false
theorem be_len : ∀ (k : Nat) (n : Int), (be k n).length = k
 | 0, _ => rfl
 | k + 1, n => by simp [be, be_len k n]
theorem pow256 (k : Nat) : (0 : Int) < 256 ^ k := Int.pow_pos (by decide)
theorem byte_toNat (n : Int) : ((byte n).toNat : Int) = n % 256 := by
 unfold byte
 have h1 : 0 ≤ n % 256 := by omega
 have h2 : n % 256 < 256 := by omega
 simp only [UInt8.toNat_ofNat']
 omega
theorem emod_mul256 (n P : Int) (hp : 0 < P) : n / P % 256 * P + n % P = n % (P * 256) := by
 have h1 := Int.mul_ediv_add_emod n P
 have h2 := Int.mul_ediv_add_emod (n / P) 256
 have h3 := Int.emod_nonneg n (show P ≠ 0 by omega)
 have h4 := Int.emod_lt_of_pos n hp
 have h5 : 0 ≤ n / P % 256 := by omega
 have h6 : n / P % 256 ≤ 255 := by omega
 generalize n / P % 256 = x at *
 generalize n % P = y at *
 generalize n / P / 256 = q at *
 have e : n = P * 256 * q + (P * x + y) := by
  rw [← h1, ← h2, Int.mul_add, Int.mul_assoc]; omega
 have hx : P * x ≤ P * 255 := Int.mul_le_mul_of_nonneg_left h6 (Int.le_of_lt hp)
 have hx0 : 0 ≤ P * x := Int.mul_nonneg (Int.le_of_lt hp) h5
 rw [e, Int.mul_add_emod_self_left, Int.emod_eq_of_lt (by omega) (by omega), Int.mul_comm x P]
theorem unbe_be : ∀ (k : Nat) (n : Int), ((unbe (be k n) : Nat) : Int) = n % 256 ^ k
 | 0, n => by simp [be, unbe]
 | k + 1, n => by
  have ih := unbe_be k n
  simp only [be, unbe, be_len]
  rw [Int.natCast_add, Int.natCast_mul, byte_toNat, ih, Int.natCast_pow]
  have e : (256 : Int) ^ (k + 1) = 256 ^ k * 256 := Int.pow_succ ..
  rw [e]
  exact emod_mul256 n (256 ^ k) (pow256 k)
theorem take?_app {k : Nat} {l r : Bs} (h : l.length = k) : take? k (l ++ r) = some (l, r) := by
 unfold take?
 rw [if_pos (by simp; omega), List.take_left' h, List.drop_left' h]
theorem rU_be (k : Nat) (n : Int) (r : Bs) (h0 : 0 ≤ n) (h1 : n < 256 ^ k) : rU k (be k n ++ r) = some (n.toNat, r) := by
 unfold rU
 rw [take?_app (be_len k n)]
 have h := unbe_be k n
 rw [Int.emod_eq_of_lt h0 h1] at h
 simp only [Option.map_some, Option.some.injEq, Prod.mk.injEq, and_true]
 omega
theorem sgn_of (k : Nat) (n : Int) (h0 : -(256 ^ k) ≤ 2 * n) (h1 : 2 * n < 256 ^ k) (m : Nat) (hm : (m : Int) = n % 256 ^ k) : sgn k m = n := by
 have hp := pow256 k
 unfold sgn
 rw [hm]
 by_cases hn : 0 ≤ n
 ·rw [Int.emod_eq_of_lt hn (by omega), if_pos h1]
 ·have e : n % 256 ^ k = n + 256 ^ k := by
   rw [← Int.add_emod_right, Int.emod_eq_of_lt (by omega) (by omega)]
  rw [e, if_neg (by omega)]; omega
theorem rS_be (k : Nat) (n : Int) (r : Bs) (h0 : -(256 ^ k) ≤ 2 * n) (h1 : 2 * n < 256 ^ k) : rS k (be k n ++ r) = some (n, r) := by
 unfold rS
 rw [take?_app (be_len k n)]
 simp only [Option.map_some, Option.some.injEq, Prod.mk.injEq, and_true]
 exact sgn_of k n h0 h1 _ (unbe_be k n)
theorem u8_lt {n : Nat} (h : n < 256) : (UInt8.ofNat n).toNat = n := by simp only [UInt8.toNat_ofNat']; omega
theorem za0 (n : Nat) (h : n < 4294967296) (r : Bs) : zaG (zbo n ++ r) = some (n, r) := by
 have h2 : ∀ m : Nat, m % 128 + 128 < 256 := by omega
 unfold zbo
 rw [za2]
 by_cases h0 : n < 128
 ·rw [if_pos h0]
  simp only [List.cons_append, List.nil_append, zaG, u8_lt (by omega : n < 256)]
  rw [if_pos h0]
 rw [if_neg h0, za2]
 by_cases h1 : n / 128 < 128
 ·rw [if_pos h1]
  simp only [List.cons_append, List.nil_append, zaG, u8_lt (h2 n), u8_lt (by omega : n / 128 < 256)]
  rw [if_neg (by omega), if_pos h1]
  simp only [Option.some.injEq, Prod.mk.injEq, and_true]; omega
 rw [if_neg h1, za2]
 by_cases h3 : n / 128 / 128 < 128
 ·rw [if_pos h3]
  simp only [List.cons_append, List.nil_append, zaG, u8_lt (h2 n), u8_lt (h2 (n / 128)), u8_lt (by omega : n / 128 / 128 < 256)]
  rw [if_neg (by omega), if_neg (by omega), if_pos h3]
  simp only [Option.some.injEq, Prod.mk.injEq, and_true]; omega
 rw [if_neg h3, za2]
 by_cases h4 : n / 128 / 128 / 128 < 128
 ·rw [if_pos h4]
  simp only [List.cons_append, List.nil_append, zaG, u8_lt (h2 n), u8_lt (h2 (n / 128)), u8_lt (h2 (n / 128 / 128)), u8_lt (by omega : n / 128 / 128 / 128 < 256)]
  rw [if_neg (by omega), if_neg (by omega), if_neg (by omega), if_pos h4]
  simp only [Option.some.injEq, Prod.mk.injEq, and_true]; omega
 rw [if_neg h4, za2]
 simp only [List.cons_append, List.nil_append, zaG, u8_lt (h2 n), u8_lt (h2 (n / 128)), u8_lt (h2 (n / 128 / 128)), u8_lt (h2 (n / 128 / 128 / 128)), u8_lt (by omega : n / 128 / 128 / 128 / 128 < 256)]
 rw [if_neg (by omega), if_neg (by omega), if_neg (by omega), if_neg (by omega), if_pos (by omega)]
 simp only [Option.some.injEq, Prod.mk.injEq, and_true]; omega
theorem rSpan_app (l r : Bs) : rSpan (l.length : Int) (l ++ r) = some (l, r) := by
 unfold rSpan
 rw [if_pos (by omega), Int.toNat_natCast, take?_app rfl]
theorem wrap32i_id (n : Int) (h : -2147483648 ≤ n ∧ n < 2147483648) : zaV n = n := by unfold zaV; omega
theorem rStr_enc (flex : Bool) (l r : Bs) (h : l.length ≤ 32767) : rStr flex (encStr flex l ++ r) = some (l, r) := by
 unfold rStr encStr
 cases flex with
 | true =>
  simp only [if_true]
  rw [Nat.mod_eq_of_lt (by omega), List.append_assoc, za0 _ (by omega)]
  simp only [Option.bind_some]
  rw [show (((1 + l.length : Nat) : Int) - 1) = (l.length : Int) by omega]
  exact rSpan_app l r
 | false =>
  simp only [Bool.false_eq_true, if_false]
  rw [List.append_assoc, rS_be 2 _ _ (by omega) (by omega)]
  simp only [Option.bind_some]
  exact rSpan_app l r
theorem rNStr_enc (flex : Bool) (o : Option Bs) (r : Bs) (h : ∀ l, o = some l → l.length ≤ 32767) : rNStr flex (encNStr flex o ++ r) = some (o, r) := by
 unfold rNStr
 cases o with
 | none =>
  unfold encNStr
  cases flex with
  | true =>
   simp only [if_true]
   rw [za0 _ (by omega)]
   simp only [Option.bind_some]
   rw [if_pos (by omega)]
  | false =>
   simp only [Bool.false_eq_true, if_false]
   rw [rS_be 2 _ _ (by omega) (by omega)]
   simp only [Option.bind_some]
   rw [if_pos (by omega)]
 | some l =>
  have hl := h l rfl
  unfold encNStr encStr
  cases flex with
  | true =>
   simp only [if_true]
   rw [Nat.mod_eq_of_lt (by omega), List.append_assoc, za0 _ (by omega)]
   simp only [Option.bind_some]
   rw [if_neg (by omega), show (((1 + l.length : Nat) : Int) - 1) = (l.length : Int) by omega, rSpan_app l r]
   rfl
  | false =>
   simp only [Bool.false_eq_true, if_false]
   rw [List.append_assoc, rS_be 2 _ _ (by omega) (by omega)]
   simp only [Option.bind_some]
   rw [if_neg (by omega), rSpan_app l r]
   rfl
theorem rByt_enc (flex : Bool) (l r : Bs) (h : l.length ≤ 32767) : rByt flex (encByt flex l ++ r) = some (l, r) := by
 unfold rByt encByt
 cases flex with
 | true =>
  simp only [if_true]
  rw [Nat.mod_eq_of_lt (by omega), List.append_assoc, za0 _ (by omega)]
  simp only [Option.bind_some]
  rw [if_neg (by omega), show (((1 + l.length : Nat) : Int) - 1) = (l.length : Int) by omega]
  exact rSpan_app l r
 | false =>
  simp only [Bool.false_eq_true, if_false]
  rw [List.append_assoc, rS_be 4 _ _ (by omega) (by omega)]
  simp only [Option.bind_some]
  rw [if_neg (by omega)]
  exact rSpan_app l r
theorem wrap_count (n : Nat) (h : n ≤ 32767) : zaV (zaV ((1 + n : Nat) : Int) - 1) = n := by
 have h1 : zaV ((1 + n : Nat) : Int) = ((1 + n : Nat) : Int) := wrap32i_id _ (by omega)
 rw [h1, wrap32i_id _ (by omega)]; omega
theorem rLen_ok (flex : Bool) (bs : Bs) (x : Int × Bs) (h : (if flex then (zaG bs).map fun x => (zaV (zaV x.1 - 1), x.2) else rS 4 bs) = some x) (hx : ¬ (x.2.length : Int) < x.1) : rLen flex bs = some x := by
 unfold rLen
 rw [h]
 exact if_neg hx
theorem map_count {bs : Bs} {m : Nat} {r : Bs} {k : Int} (h : zaG bs = some (m, r)) (hk : zaV (zaV (m : Int) - 1) = k) : (zaG bs).map (fun x => (zaV (zaV x.1 - 1), x.2)) = some (k, r) := by
 rw [h, ← hk]
 rfl
theorem rLen_enc (flex : Bool) (n : Nat) (r : Bs) (h : n ≤ 32767) (hr : n ≤ r.length) : rLen flex (encLen flex n ++ r) = some ((n : Int), r) := by
 cases flex
 ·exact rLen_ok _ _ _ (rS_be 4 (n : Int) r (by omega) (by omega)) (by show ¬ (r.length : Int) < (n : Int); omega)
 ·refine rLen_ok _ _ _ ?_ (by show ¬ (r.length : Int) < (n : Int); omega)
  have e2 : (1 + n) % 4294967296 = 1 + n := Nat.mod_eq_of_lt (by omega)
  have e : encLen true n = zbo (1 + n) := by
   unfold encLen; rw [if_pos rfl, e2]
  rw [e, if_pos rfl]
  exact map_count (za0 (1 + n) (by omega) r) (wrap_count n h)
theorem rLen_null (flex : Bool) (r : Bs) : rLen flex (encNLen flex true 0 ++ r) = some (-1, r) := by
 have hx : ¬ (r.length : Int) < (-1 : Int) := by omega
 cases flex
 ·exact rLen_ok _ _ _ (rS_be 4 (-1) r (by omega) (by omega)) hx
 ·refine rLen_ok _ _ _ ?_ hx
  have e : encNLen true true 0 = zbo 0 := by
   unfold encNLen; rw [if_pos rfl, if_pos rfl]
  rw [e, if_pos rfl]
  exact map_count (za0 0 (by omega) r) (by unfold zaV; omega)
def TagsW (t : za5) : Prop := (∀ x ∈ t, x.1 < 4294967296 ∧ x.2.length ≤ 32767) ∧ (t.map (·.1)).Nodup ∧ t.length ≤ 32767
def Rising : za5 → Prop
 | [] => True
 | x :: r => (∀ y ∈ r, x.1 < y.1) ∧ Rising r
theorem mem_tagIns (x : Nat × Bs) : ∀ (t : za5) (y : Nat × Bs), y ∈ tagIns x t ↔ y = x ∨ y ∈ t
 | [], y => by simp [tagIns]
 | z :: r, y => by
  unfold tagIns
  split
  ·simp
  ·rw [List.mem_cons, mem_tagIns x r y, List.mem_cons]
   constructor
   ·rintro (h | h | h)
    ·exact .inr (.inl h)
    ·exact .inl h
    ·exact .inr (.inr h)
   ·rintro (h | h | h)
    ·exact .inr (.inl h)
    ·exact .inl h
    ·exact .inr (.inr h)
theorem mem_tagSort : ∀ (t : za5) (y : Nat × Bs), y ∈ zaO t ↔ y ∈ t
 | [], y => Iff.rfl
 | x :: r, y => by
  unfold zaO
  rw [mem_tagIns, mem_tagSort r y, List.mem_cons]
theorem tagIns_len (x : Nat × Bs) : ∀ t : za5, (tagIns x t).length = t.length + 1
 | [] => rfl
 | z :: r => by
  unfold tagIns
  split
  ·rfl
  ·simp [tagIns_len x r]
theorem tagSort_len : ∀ t : za5, (zaO t).length = t.length
 | [] => rfl
 | x :: r => by unfold zaO; rw [tagIns_len, tagSort_len r]; rfl
theorem tagIns_rising (x : Nat × Bs) : ∀ t : za5, Rising t → (∀ y ∈ t, y.1 ≠ x.1) → Rising (tagIns x t)
 | [], _, _ => by simp [tagIns, Rising]
 | z :: r, h, hn => by
  unfold tagIns
  have hz := hn z (by simp)
  split
  ·rename_i hx
   refine ⟨fun y hy => ?_, h⟩
   rcases List.mem_cons.1 hy with rfl | hy
   ·omega
   ·have := h.1 y hy; omega
  ·rename_i hx
   refine ⟨fun y hy => ?_, tagIns_rising x r h.2 fun y hy => hn y (by simp [hy])⟩
   rcases (mem_tagIns x r y).1 hy with rfl | hy
   ·omega
   ·exact h.1 y hy
theorem tagSort_rising : ∀ t : za5, (t.map (·.1)).Nodup → Rising (zaO t)
 | [], _ => trivial
 | x :: r, h => by
  unfold zaO
  rw [List.map_cons, List.nodup_cons] at h
  refine tagIns_rising x _ (tagSort_rising r h.2) fun y hy e => h.1 ?_
  rw [← e]
  exact List.mem_map_of_mem ((mem_tagSort r y).1 hy)
theorem tagSort_id : ∀ t : za5, Rising t → zaO t = t
 | [], _ => rfl
 | x :: r, h => by
  unfold zaO
  rw [tagSort_id r h.2]
  cases r with
  | nil => rfl
  | cons y r => unfold tagIns; rw [if_pos (Nat.le_of_lt (h.1 y (by simp)))]
theorem Rising.nodup : ∀ {t : za5}, Rising t → (t.map (·.1)).Nodup
 | [], _ => List.nodup_nil
 | x :: r, h => by
  rw [List.map_cons, List.nodup_cons]
  refine ⟨fun hm => ?_, h.2.nodup⟩
  obtain ⟨y, hy, e⟩ := List.mem_map.1 hm
  have := h.1 y hy
  omega
theorem TagsW.sort {t : za5} (h : TagsW t) : TagsW (zaO t) :=
 ⟨fun x hx => h.1 x ((mem_tagSort t x).1 hx), (tagSort_rising t h.2.1).nodup, by rw [tagSort_len]; exact h.2.2⟩
theorem tagSet_new : ∀ (t : za5) (k : Nat) (v : Bs), (∀ y ∈ t, y.1 ≠ k) → tagSet t k v = t ++ [(k, v)]
 | [], _, _, _ => rfl
 | (j, u) :: r, k, v, h => by
  have hj : j ≠ k := h (j, u) (by simp)
  unfold tagSet
  rw [if_neg hj, tagSet_new r k v fun y hy => h y (by simp [hy])]; rfl
theorem rTag_enc (x : Nat × Bs) (r : Bs) (h1 : x.1 < 4294967296) (h2 : x.2.length ≤ 32767) : rTag (encTag x ++ r) = some (x, r) := by
 unfold rTag encTag
 rw [Nat.mod_eq_of_lt (by omega), List.append_assoc, za0 _ h1]
 simp only [Option.bind_some]
 rw [List.append_assoc, za0 _ (by omega)]
 simp only [Option.bind_some]
 rw [rSpan_app]
 rfl
theorem rTagsN_enc : ∀ (t acc : za5) (r : Bs), (∀ x ∈ t, x.1 < 4294967296 ∧ x.2.length ≤ 32767) → ((acc ++ t).map (·.1)).Nodup → rTagsN t.length acc (t.flatMap encTag ++ r) = some (acc ++ t, r)
 | [], acc, r, _, _ => by simp [rTagsN]
 | x :: t, acc, r, h, hn => by
  have hx := h x (by simp)
  simp only [List.length_cons, List.flatMap_cons, rTagsN]
  rw [List.append_assoc, rTag_enc x _ hx.1 hx.2]
  simp only [Option.bind_some]
  have hnew : ∀ y ∈ acc, y.1 ≠ x.1 := by
   intro y hy e
   rw [List.map_append, List.map_cons, List.nodup_append] at hn
   exact hn.2.2 y.1 (List.mem_map_of_mem hy) x.1 (by simp) e
  rw [tagSet_new acc x.1 x.2 hnew]
  have := rTagsN_enc t (acc ++ [x]) r (fun y hy => h y (by simp [hy])) (by rw [List.append_assoc]; exact hn)
  rw [List.append_assoc] at this
  exact this
set_option linter.all false
theorem uvarAux_pos : ∀ (k n : Nat), 1 ≤ (za2 k n).length
 | 0, _ => by simp [za2]
 | k + 1, n => by unfold za2; split <;> simp
def okKD : K → D → Prop
 | .bool, .bool _ => True
 | .i8, .int n => -128 ≤ n ∧ n < 128
 | .i16, .int n => -32768 ≤ n ∧ n < 32768
 | .i32, .int n => -2147483648 ≤ n ∧ n < 2147483648
 | .i64, .int n => -9223372036854775808 ≤ n ∧ n < 9223372036854775808
 | .u16, .int n => 0 ≤ n ∧ n < 65536
 | .f64, .f64 n => n < 18446744073709551616
 | .uuid, .uuid l => l.length = 16
 | .text, .str l => l.length ≤ 32767
 | .bytes, .bytes l => l.length ≤ 32767
 | _, _ => False
theorem zbs {α β : Type} {o : Option α} {x : α} (f : α → β) (h : o = some x) : o.map f = some (f x) := by rw [h]; rfl
theorem rK_enc (k : K) (flex : Bool) (d : D) (r : Bs) (h : okKD k d) : rK k flex (encK k flex d ++ r) = some (d, r) := by
 cases k <;> cases d <;> simp only [okKD] at h
 ·
  rename_i b
  have h1 := take?_app (k := 1) (l := [if b then (1 : UInt8) else 0]) (r := r) rfl
  refine (zbs (fun x : Bs × Bs => (D.bool (unbe x.1 != 0), x.2)) h1).trans ?_
  cases b <;> rfl
 ·exact zbs (fun x : Int × Bs => (D.int x.1, x.2)) (rS_be 1 _ r (by omega) (by omega))
 ·exact zbs (fun x : Int × Bs => (D.int x.1, x.2)) (rS_be 2 _ r (by omega) (by omega))
 ·exact zbs (fun x : Int × Bs => (D.int x.1, x.2)) (rS_be 4 _ r (by omega) (by omega))
 ·exact zbs (fun x : Int × Bs => (D.int x.1, x.2)) (rS_be 8 _ r (by omega) (by omega))
 ·rename_i n
  have h1 := rU_be 2 n r h.1 (by omega)
  refine (zbs (fun x : Nat × Bs => (D.int x.1, x.2)) h1).trans ?_
  have e : ((n.toNat : Nat) : Int) = n := by omega
  show some (D.int ((n.toNat : Nat) : Int), r) = _
  rw [e]
 ·rename_i n
  have h1 := rU_be 8 (n : Int) r (by omega) (by omega)
  exact zbs (fun x : Nat × Bs => (D.f64 x.1, x.2)) h1
 ·exact zbs (fun x : Bs × Bs => (D.uuid x.1, x.2)) (take?_app h)
 ·exact zbs (fun x : Bs × Bs => (D.str x.1, x.2)) (rStr_enc flex _ r h)
 ·exact zbs (fun x : Bs × Bs => (D.bytes x.1, x.2)) (rByt_enc flex _ r h)
theorem rMany_enc {α β : Type} (one : Bs → Option (α × Bs)) (enc : β → Bs) (nr : β → α) : ∀ (l : List β) (r : Bs), (∀ x ∈ l, ∀ r, one (enc x ++ r) = some (nr x, r)) → rMany one l.length (l.flatMap enc ++ r) = some (l.map nr, r)
 | [], r, _ => rfl
 | x :: l, r, h => by
  simp only [List.length_cons, List.flatMap_cons, rMany, List.map_cons]
  rw [List.append_assoc, h x (by simp)]
  have ih := rMany_enc one enc nr l r fun y hy => h y (by simp [hy])
  simp only [Option.bind_some]
  rw [ih]
  rfl
def okT (flex : Bool) (fs : List Fld) (t : za5) : Prop := if flex then TagsW t ∧ ∀ x ∈ t, ∀ f ∈ fs, f.tag ≠ (x.1 : Int) else t = []
mutual
def okFD (flex : Bool) : Fld → D → Prop
 | .mk k _ _ null _ _ of sub => fun d => match k with
  | .list => match d with
   | .arr nil l => l.length ≤ 32767 ∧ (nil = true → l = []) ∧ ∀ x ∈ l, match of with
    | .struct => ∃ s : S, x = s.d ∧ okLD flex sub s.ds ∧ okT flex sub s.tags
    | k => okKD k x
   | _ => False
  | .struct =>
   if null < 0 then ∃ s : S, d = s.d ∧ okLD flex sub s.ds ∧ okT flex sub s.tags
   else match d with
    | .pnil => True
    | .ptr x => ∃ s : S, x = s.d ∧ okLD flex sub s.ds ∧ okT flex sub s.tags
    | _ => False
  | .text => if null < 0 then okKD .text d else match d with
   | .nstr none => True
   | .nstr (some l) => l.length ≤ 32767
   | _ => False
  | k => okKD k d
def okLD (flex : Bool) : List Fld → List D → Prop
 | [], ds => ds = []
 | f :: r, ds => ∃ d ds', ds = d :: ds' ∧ okFD flex f d ∧ okLD flex r ds'
end
def nrmT (flex : Bool) (t : za5) : za5 := if flex then zaO t else []
mutual
def nrmF (flex : Bool) (ver : Int) : Fld → D → D
 | .mk k _ _ null _ _ of sub => fun d => match k with
  | .list => match d with
   | .arr nil l => .arr (if null < 0 then l.isEmpty else if ver < null then false else nil) (match of with
    | .struct => l.map fun x => match x with
     | .struct ds t => .struct (nrmL flex ver sub ds) (nrmT flex t)
     | y => y
    | _ => l)
   | y => y
  | .struct =>
   let one := fun x => match x with
    | .struct ds t => D.struct (nrmL flex ver sub ds) (nrmT flex t)
    | y => y
   if null < 0 then one d else match d with
    | .ptr x => .ptr (one x)
    | y => y
  | .text => if null < 0 then d else match d with
   | .nstr o => if ver < null then .nstr (some (o.getD [])) else .nstr o
   | y => y
  | _ => d
def nrmL (flex : Bool) (ver : Int) : List Fld → List D → List D
 | f :: r, d :: ds => (if f.tag < 0 then (if f.has ver then nrmF flex ver f d else dfltF f) else if flex && zaX d then nrmF flex ver f d else dfltF f) :: nrmL flex ver r ds
 | _, _ => []
end
mutual
def posF (flex : Bool) (ver : Int) : Fld → Bool
 | .mk k _ _ null _ _ _ sub => match k with
  | .struct => decide (0 ≤ null) || posL flex ver sub
  | _ => true
def posL (flex : Bool) (ver : Int) : List Fld → Bool
 | [] => flex
 | f :: r => (decide (f.tag < 0) && f.has ver && posF flex ver f) || posL flex ver r
end
mutual
def goodF (flex : Bool) (ver : Int) : Fld → Bool
 | .mk k _ _ null tag _ of sub => (match k with | .list => decide (of ≠ .list) && (decide (of ≠ .struct) || posL flex ver sub) | _ => true) &&
   (decide (tag < 0) || (decide (tag < 4294967296) && (decide (k = .list) || decide (k = .uuid) || (decide (k = .text) && decide (0 ≤ null))))) && goodL flex ver sub
def goodL (flex : Bool) (ver : Int) : List Fld → Bool
 | [] => true
 | f :: r => goodF flex ver f && (decide (f.tag < 0) || r.all fun g => decide (g.tag < 0)) && goodL flex ver r
end
def partE (flex : Bool) (ver : Int) (sub : List Fld) (ds : List D) (t : za5) : Bs := encL flex ver sub ds ++ (if flex then za9 (zaH flex ver sub ds).1 (zaH flex ver sub ds).2 t else [])
def partD (flex : Bool) (ver : Int) (sub : List Fld) (bs : Bs) : Option (D × Bs) := (decPart flex ver sub bs).map fun x => (x.1.d, x.2)
theorem encK_pos (k : K) (flex : Bool) (d : D) (h : okKD k d) : 1 ≤ (encK k flex d).length := by
 have hu := fun n => uvarAux_pos 4 n
 cases k <;> cases d <;> simp only [okKD] at h
 ·simp [encK]
 ·simp [encK, be_len]
 ·simp [encK, be_len]
 ·simp [encK, be_len]
 ·simp [encK, be_len]
 ·simp [encK, be_len]
 ·simp [encK, be_len]
 ·simp [encK]; omega
 ·simp only [encK, encStr, List.length_append]
  split
  ·have := hu ((1 + List.length ‹Bs›) % 4294967296); unfold zbo; omega
  ·rw [be_len]; omega
 ·simp only [encK, encByt, List.length_append]
  split
  ·have := hu ((1 + List.length ‹Bs›) % 4294967296); unfold zbo; omega
  ·rw [be_len]; omega
set_option linter.all false
def nrmU (flex : Bool) (ver : Int) : List Fld → List D → List D
 | f :: r, d :: ds => (if decide (f.tag < 0) && f.has ver then nrmF flex ver f d else dfltF f) :: nrmU flex ver r ds
 | _, _ => []
def FEnc (flex : Bool) (ver : Int) (f : Fld) : Prop := ∀ d r, okFD flex f d → (zbq flex ver f d).length ≤ 2147483648 → decF flex ver f (zbq flex ver f d ++ r) = some (nrmF flex ver f d, r)
theorem decL_enc (flex : Bool) (ver : Int) : ∀ (fs : List Fld) (ds : List D) (r : Bs), (∀ f ∈ fs, FEnc flex ver f) → okLD flex fs ds → (encL flex ver fs ds).length ≤ 2147483648 → decL flex ver fs (encL flex ver fs ds ++ r) = some (nrmU flex ver fs ds, r)
 | [], ds, r, _, h, _ => by
  unfold okLD at h; subst h
  simp [decL, encL, nrmU]
 | f :: fs, ds, r, H, h, hl => by
  unfold okLD at h
  obtain ⟨d, ds', rfl, h1, h2⟩ := h
  rw [encL, List.length_append] at hl
  have ih := decL_enc flex ver fs ds' r (fun g hg => H g (by simp [hg])) h2 (by omega)
  rw [encL, decL, nrmU]
  by_cases hc : (decide (f.tag < 0) && f.has ver) = true
  ·rw [if_pos hc] at hl
   rw [if_pos hc, if_pos hc, if_pos hc, List.append_assoc, H f (by simp) d _ h1 (by omega)]
   simp only [Option.bind_some]
   rw [ih]; rfl
  ·rw [if_neg hc, if_neg hc, if_neg hc, List.nil_append, ih]; rfl
theorem decKnown_none (flex : Bool) (ver : Int) : ∀ (fs : List Fld) (i k : Nat), (∀ f ∈ fs, f.tag ≠ (k : Int)) → zaU flex ver fs i k = none
 | [], _, _, _ => rfl
 | f :: fs, i, k, h => by
  rw [zaU, if_neg (h f (by simp)), decKnown_none flex ver fs (i + 1) k fun g hg => h g (by simp [hg])]
theorem rTagged_unknown (known : Nat → Option (Nat × (Bs → Option D))) : ∀ (t : za5) (s : S) (r : Bs), (∀ x ∈ t, (x.1 < 4294967296 ∧ x.2.length ≤ 32767) ∧ known x.1 = none) → ((s.tags ++ t).map (·.1)).Nodup →
  rTagged known t.length s (t.flatMap encTag ++ r) = some (⟨s.ds, s.tags ++ t⟩, r)
 | [], s, r, _, _ => by simp [rTagged, Sem.id]
 | x :: t, s, r, h, hn => by
  have hx := h x (by simp)
  have hnew : ∀ y ∈ s.tags, y.1 ≠ x.1 := by
   intro y hy e
   rw [List.map_append, List.map_cons, List.nodup_append] at hn
   exact hn.2.2 y.1 (List.mem_map_of_mem hy) x.1 (by simp) e
  have ih := rTagged_unknown known t ⟨s.ds, s.tags ++ [x]⟩ r (fun y hy => h y (by simp [hy])) (by
   show ((s.tags ++ [x] ++ t).map (·.1)).Nodup
   rw [List.append_assoc]; exact hn)
  have e2 : x.2.length % 4294967296 = x.2.length := Nat.mod_eq_of_lt (by omega)
  simp only [List.length_cons, List.flatMap_cons, rTagged]
  have e : encTag x ++ t.flatMap encTag ++ r = zbo x.1 ++ (zbo x.2.length ++ (x.2 ++ (t.flatMap encTag ++ r))) := by
   unfold encTag; rw [e2]; simp only [List.append_assoc]
  rw [e, za0 _ hx.1.1, Option.bind_some, za0 _ (by omega), Option.bind_some, rSpan_app, Option.bind_some, hx.2]
  dsimp only
  rw [tagSet_new s.tags x.1 x.2 hnew]
  rw [ih, List.append_assoc]
  rfl
theorem nrmL_noflex (ver : Int) : ∀ (fs : List Fld) (ds : List D), nrmL false ver fs ds = nrmU false ver fs ds
 | [], _ => by simp [nrmL, nrmU]
 | f :: fs, [] => by simp [nrmL, nrmU]
 | f :: fs, d :: ds => by
  rw [nrmL, nrmU, nrmL_noflex ver fs ds]
  congr 1
  by_cases h : f.tag < 0
  ·rw [if_pos h]
   simp [h]
  ·rw [if_neg h]
   simp [h]
theorem nrmL_notag (flex : Bool) (ver : Int) : ∀ (fs : List Fld) (ds : List D), (∀ f ∈ fs, f.tag < 0) → nrmL flex ver fs ds = nrmU flex ver fs ds
 | [], _, _ => by simp [nrmL, nrmU]
 | f :: fs, [], _ => by simp [nrmL, nrmU]
 | f :: fs, d :: ds, h => by
  have h1 := h f (by simp)
  rw [nrmL, nrmU, nrmL_notag flex ver fs ds fun g hg => h g (by simp [hg])]
  congr 1
  rw [if_pos h1]
  simp [h1]
theorem anyTag_false : ∀ (fs : List Fld), anyTag fs = false ↔ ∀ f ∈ fs, f.tag < 0
 | [] => by simp [anyTag]
 | f :: fs => by
  rw [anyTag, Bool.or_eq_false_iff, anyTag_false fs, decide_eq_false_iff_not]
  simp only [List.mem_cons, forall_eq_or_imp]
  constructor
  ·rintro ⟨h1, h2⟩; exact ⟨by omega, h2⟩
  ·rintro ⟨h1, h2⟩; exact ⟨by omega, h2⟩
theorem encKnown_no (flex : Bool) (ver : Int) : ∀ (fs : List Fld) (ds : List D), (∀ f ∈ fs, f.tag < 0) → zaH flex ver fs ds = (0, [])
 | [], _, _ => by simp [zaH]
 | f :: fs, [], _ => by simp [zaH]
 | f :: fs, d :: ds, h => by
  have h1 := h f (by simp)
  rw [zaH, encKnown_no flex ver fs ds fun g hg => h g (by simp [hg])]
  dsimp only
  rw [if_neg (by omega)]
theorem known_cases (ver : Int) : ∀ (fs : List Fld) (ds : List D), okLD true fs ds → goodL true ver fs = true →
  (zaH true ver fs ds = (0, []) ∧ nrmL true ver fs ds = nrmU true ver fs ds) ∨
  ∃ j f d, fs[j]? = some f ∧ ds[j]? = some d ∧ 0 ≤ f.tag ∧ f.tag < 4294967296 ∧ okFD true f d ∧ zaH true ver fs ds = (1, zbo f.tag.toNat ++ (zbo ((zbq true ver f d).length % 4294967296) ++ zbq true ver f d)) ∧
   nrmL true ver fs ds = (nrmU true ver fs ds).set j (nrmF true ver f d) ∧ ∀ i, zaU true ver fs i f.tag.toNat = some (i + j, fun bs => (decF true ver f bs).map (·.1))
 | [], ds, h, _ => by
  unfold okLD at h; subst h
  exact .inl ⟨by simp [zaH], by simp [nrmL, nrmU]⟩
 | f :: fs, ds, h, hg => by
  unfold okLD at h
  obtain ⟨d, ds', rfl, h1, h2⟩ := h
  unfold goodL at hg
  simp only [Bool.and_eq_true, Bool.or_eq_true, decide_eq_true_eq, List.all_eq_true] at hg
  obtain ⟨⟨hg1, hg2⟩, hg3⟩ := hg
  by_cases ht : f.tag < 0
  ·rcases known_cases ver fs ds' h2 hg3 with ⟨k1, k2⟩ | ⟨j, g, e, k1, k2, k3, k4, k5, k6, k7, k8⟩
   ·refine .inl ⟨?_, ?_⟩
    ·rw [zaH, k1]; dsimp only; rw [if_neg (by omega)]
    ·rw [nrmL, nrmU, k2, if_pos ht]; simp [ht]
   ·refine .inr ⟨j + 1, g, e, by simpa using k1, by simpa using k2, k3, k4, k5, ?_, ?_, ?_⟩
    ·rw [zaH, k6]; dsimp only; rw [if_neg (by omega)]
    ·rw [nrmL, nrmU, k7, if_pos ht, List.set_cons_succ]; simp [ht]
    ·intro i
     rw [zaU, if_neg (by omega), k8]
     rw [show i + 1 + j = i + (j + 1) by omega]
  ·have hr : ∀ g ∈ fs, g.tag < 0 := by
    rcases hg2 with h | h
    ·exact absurd h ht
    ·exact h
   have e1 := encKnown_no true ver fs ds' hr
   have e2 := nrmL_notag true ver fs ds' hr
   have hlt : f.tag < 4294967296 := by
    cases f
    unfold goodF at hg1
    simp only [Bool.and_eq_true, Bool.or_eq_true, decide_eq_true_eq] at hg1
    rcases hg1.1.2 with h | h
    ·exact absurd h ht
    ·exact h.1
   by_cases hu : zaX d = true
   ·refine .inr ⟨0, f, d, rfl, rfl, by omega, hlt, h1, ?_, ?_, ?_⟩
    ·rw [zaH, e1]; dsimp only; rw [if_pos ⟨by omega, hu⟩, List.append_nil]
    ·rw [nrmL, nrmU, e2, if_neg ht, List.set_cons_zero]; simp [hu]
    ·intro i
     rw [zaU, if_pos (by omega)]; rfl
   ·refine .inl ⟨?_, ?_⟩
    ·rw [zaH, e1]; dsimp only; rw [if_neg (fun h => hu h.2)]
    ·rw [nrmL, nrmU, e2, if_neg ht]; simp [ht, hu]
set_option linter.all false
theorem okT_true {fs : List Fld} {t : za5} (h : okT true fs t) : TagsW t ∧ ∀ x ∈ t, ∀ f ∈ fs, f.tag ≠ (x.1 : Int) := by
 unfold okT at h; rwa [if_pos rfl] at h
theorem rTags_enc (t : za5) (r : Bs) (h : TagsW t) : rTags (zbo t.length ++ ((zaO t).flatMap encTag ++ r)) = some (zaO t, r) := by
 have hs := h.sort
 have hl := h.2.2
 unfold rTags
 rw [za0 _ (by omega), Option.bind_some]
 have := rTagsN_enc (zaO t) [] r hs.1 (by simpa using hs.2.1)
 rw [tagSort_len] at this
 simpa using this
theorem partD_ok {flex : Bool} {ver : Int} {fs : List Fld} {bs r1 r2 : Bs} {ds ds' : List D} {t : za5} (h1 : decL flex ver fs bs = some (ds, r1))
  (h2 : (if flex then (if anyTag fs then semTagged (zaU flex ver fs 0) ⟨ds, []⟩ r1 else semTags true ⟨ds, []⟩ r1) else some (⟨ds, []⟩, r1)) = some (⟨ds', t⟩, r2)) :
  partD flex ver fs bs = some (.struct ds' t, r2) := by
 unfold partD decPart partOf
 rw [h1, Option.bind_some, h2]
 rfl
theorem part_enc (flex : Bool) (ver : Int) (fs : List Fld) (ds : List D) (t : za5) (r : Bs) (H : ∀ f ∈ fs, FEnc flex ver f) (hg : goodL flex ver fs = true) (ok : okLD flex fs ds) (okt : okT flex fs t) (hl : (partE flex ver fs ds t).length ≤ 2147483648) :
  partD flex ver fs (partE flex ver fs ds t ++ r) = some (.struct (nrmL flex ver fs ds) (nrmT flex t), r) := by
 unfold partE at hl ⊢
 rw [List.length_append] at hl
 cases flex with
 | false =>
  rw [if_neg (by simp), List.append_nil]
  refine partD_ok (decL_enc false ver fs ds r H ok (by omega)) ?_
  rw [if_neg (by simp), nrmL_noflex]
  rfl
 | true =>
  obtain ⟨hw, hunk⟩ := okT_true okt
  have hs := hw.sort
  have htl := hw.2.2
  rw [if_pos rfl] at hl ⊢
  rw [List.append_assoc]
  refine partD_ok (decL_enc true ver fs ds _ H ok (by omega)) ?_
  have hn : nrmT true t = zaO t := by unfold nrmT; rw [if_pos rfl]
  rw [if_pos rfl, hn]
  unfold za9 at hl ⊢
  unfold zaW at hl ⊢
  cases ha : anyTag fs with
  | false =>
   have hno := (anyTag_false fs).1 ha
   rw [if_neg (by simp), encKnown_no true ver fs ds hno, nrmL_notag true ver fs ds hno]
   have e : (0 + t.length) % 4294967296 = t.length := by rw [Nat.zero_add]; exact Nat.mod_eq_of_lt (by omega)
   dsimp only
   rw [e, List.nil_append, List.append_assoc]
   have h1 := rTags_enc t r hw
   unfold semTags semIf
   rw [if_pos rfl]
   show ((rTags _).map fun x => (({ (⟨nrmU true ver fs ds, []⟩ : S) with tags := x.1 }, x.2) : S × Bs)) = _
   rw [h1]
   rfl
  | true =>
   rw [if_pos rfl]
   have hkn : ∀ x ∈ zaO t, (x.1 < 4294967296 ∧ x.2.length ≤ 32767) ∧ zaU true ver fs 0 x.1 = none := fun x hx =>
    ⟨hs.1 x hx, decKnown_none true ver fs 0 x.1 (hunk x ((mem_tagSort t x).1 hx))⟩
   unfold semTagged
   rcases known_cases ver fs ds ok hg with ⟨k1, k2⟩ | ⟨j, f, d, k1, k2, k3, k4, k5, k6, k7, k8⟩
   ·rw [k1, k2]
    have e : (0 + t.length) % 4294967296 = t.length := by rw [Nat.zero_add]; exact Nat.mod_eq_of_lt (by omega)
    dsimp only
    rw [e, List.nil_append, List.append_assoc, za0 _ (by omega), Option.bind_some]
    have h1 := rTagged_unknown (zaU true ver fs 0) (zaO t) ⟨nrmU true ver fs ds, []⟩ r hkn (by simpa using hs.2.1)
    rw [tagSort_len] at h1
    exact h1
   ·rw [k6] at hl ⊢
    rw [k7]
    dsimp only at hl ⊢
    simp only [List.length_append] at hl
    have e : (1 + t.length) % 4294967296 = t.length + 1 := by rw [Nat.add_comm]; exact Nat.mod_eq_of_lt (by omega)
    have e2 : (zbq true ver f d).length % 4294967296 = (zbq true ver f d).length := Nat.mod_eq_of_lt (by omega)
    rw [e, e2]
    have htag : f.tag.toNat < 4294967296 := by omega
    have hH := H f (List.mem_of_getElem? k1) d [] k5 (by omega)
    rw [List.append_nil] at hH
    have h1 := rTagged_unknown (zaU true ver fs 0) (zaO t) ⟨(nrmU true ver fs ds).set j (nrmF true ver f d), []⟩ r hkn (by simpa using hs.2.1)
    rw [tagSort_len] at h1
    have e3 : zbo (t.length + 1) ++ ((zbo f.tag.toNat ++ (zbo (zbq true ver f d).length ++ zbq true ver f d)) ++ (zaO t).flatMap encTag) ++ r =
      zbo (t.length + 1) ++ (zbo f.tag.toNat ++ (zbo (zbq true ver f d).length ++ (zbq true ver f d ++ ((zaO t).flatMap encTag ++ r)))) := by simp only [List.append_assoc]
    rw [e3, za0 _ (by omega), Option.bind_some]
    dsimp only
    rw [rTagged]
    dsimp only
    rw [za0 _ htag, Option.bind_some, za0 _ (by omega), Option.bind_some, rSpan_app, Option.bind_some]
    dsimp only
    rw [k8 0, Nat.zero_add]
    dsimp only
    rw [hH]
    exact h1
set_option linter.all false
theorem encStr_pos (flex : Bool) (l : Bs) : 1 ≤ (encStr flex l).length := by
 unfold encStr
 rw [List.length_append]
 split
 ·have := uvarAux_pos 4 ((1 + l.length) % 4294967296); unfold zbo; omega
 ·rw [be_len]; omega
theorem encNStr_pos (flex : Bool) (o : Option Bs) : 1 ≤ (encNStr flex o).length := by
 cases o with
 | none =>
  have e : encNStr flex none = if flex then zbo 0 else be 2 (-1) := rfl
  rw [e]
  split
  ·exact uvarAux_pos 4 0
  ·rw [be_len]; omega
 | some l => exact encStr_pos flex l
theorem encLen_pos (flex : Bool) (n : Nat) : 1 ≤ (encLen flex n).length := by
 unfold encLen
 split
 ·exact uvarAux_pos 4 _
 ·rw [be_len]; omega
theorem encNLen_pos (flex nil : Bool) (n : Nat) : 1 ≤ (encNLen flex nil n).length := by
 unfold encNLen
 split
 ·split
  ·exact uvarAux_pos 4 _
  ·rw [be_len]; omega
 ·exact encLen_pos flex n
def oneE (flex : Bool) (ver : Int) (sub : List Fld) (x : D) : Bs := match x with | .struct ds t => partE flex ver sub ds t | _ => []
theorem encF_list (flex : Bool) (ver : Int) (a b null tag df : Int) (of : K) (sub : List Fld) (nil : Bool) (l : List D) : zbq flex ver (.mk .list a b null tag df of sub) (.arr nil l) =
  (if null < 0 ∨ ver < null then encLen flex l.length else encNLen flex nil l.length) ++ (match of with | .struct => l.flatMap (oneE flex ver sub) | k => l.flatMap (encK k flex)) := by
 unfold zbq
 cases of <;> rfl
theorem encF_struct (flex : Bool) (ver : Int) (a b null tag df : Int) (of : K) (sub : List Fld) (d : D) (h : null < 0) : zbq flex ver (.mk .struct a b null tag df of sub) d = oneE flex ver sub d := by
 unfold zbq
 dsimp only
 rw [if_pos h]
 rfl
theorem encF_ptr (flex : Bool) (ver : Int) (a b null tag df : Int) (of : K) (sub : List Fld) (x : D) (h : ¬ null < 0) : zbq flex ver (.mk .struct a b null tag df of sub) (.ptr x) = 1 :: oneE flex ver sub x := by
 unfold zbq
 dsimp only
 rw [if_neg h]
 rfl
theorem encF_pnil (flex : Bool) (ver : Int) (a b null tag df : Int) (of : K) (sub : List Fld) (h : ¬ null < 0) : zbq flex ver (.mk .struct a b null tag df of sub) .pnil = [255] := by
 unfold zbq
 dsimp only
 rw [if_neg h]
mutual
theorem encF_pos {flex : Bool} {ver : Int} : ∀ {f : Fld} {d : D}, posF flex ver f = true → okFD flex f d → 1 ≤ (zbq flex ver f d).length
 | .mk k a b null tag df of sub, d, hp, ok => by
  cases k <;> try (unfold okFD at ok; unfold zbq; exact encK_pos _ flex d ok)
  ·unfold okFD at ok
   dsimp only at ok
   unfold zbq
   dsimp only
   split
   ·rename_i h; rw [if_pos h] at ok; exact encK_pos _ flex d ok
   ·rename_i h
    rw [if_neg h] at ok
    cases d <;> first | exact ok.elim | skip
    dsimp only
    split
    ·exact encStr_pos flex _
    ·exact encNStr_pos flex _
  ·unfold okFD at ok
   dsimp only at ok
   unfold posF at hp
   simp only [Bool.or_eq_true, decide_eq_true_eq] at hp
   by_cases h : null < 0
   ·rw [if_pos h] at ok
    obtain ⟨s, rfl, h1, _⟩ := ok
    rw [encF_struct _ _ _ _ _ _ _ _ _ _ h]
    exact part_pos (by
     rcases hp with hp | hp
     ·omega
     ·exact hp) h1
   ·rw [if_neg h] at ok
    cases d <;> first | exact ok.elim | skip
    ·rw [encF_pnil _ _ _ _ _ _ _ _ _ h]; simp
    ·rw [encF_ptr _ _ _ _ _ _ _ _ _ _ h]; simp
  ·unfold okFD at ok
   dsimp only at ok
   cases d <;> first | exact ok.elim | skip
   rw [encF_list, List.length_append]
   split
   ·have := encLen_pos flex (List.length ‹List D›); omega
   ·have := encNLen_pos flex ‹Bool› (List.length ‹List D›); omega
theorem part_pos {flex : Bool} {ver : Int} : ∀ {fs : List Fld} {s : S}, posL flex ver fs = true → okLD flex fs s.ds → 1 ≤ (partE flex ver fs s.ds s.tags).length
 | fs, s, hp, ok => by
  unfold partE
  rw [List.length_append]
  rcases encL_pos hp ok with h | h
  ·subst h
   rw [if_pos rfl]
   unfold za9
   have := uvarAux_pos 4 (((zaH true ver fs s.ds).1 + s.tags.length) % 4294967296)
   unfold zbo
   rw [List.length_append]; omega
  ·omega
theorem encL_pos {flex : Bool} {ver : Int} : ∀ {fs : List Fld} {ds : List D}, posL flex ver fs = true → okLD flex fs ds → flex = true ∨ 1 ≤ (encL flex ver fs ds).length
 | [], _, hp, _ => by unfold posL at hp; exact .inl hp
 | f :: r, ds, hp, ok => by
  unfold okLD at ok
  obtain ⟨d, ds', rfl, h1, h2⟩ := ok
  unfold posL at hp
  simp only [Bool.or_eq_true] at hp
  rw [encL, List.length_append]
  rcases hp with hp | hp
  ·rw [Bool.and_eq_true] at hp
   rw [if_pos hp.1]
   have := encF_pos hp.2 h1
   right; omega
  ·rcases encL_pos hp h2 with h | h
   ·exact .inl h
   ·right; omega
end
theorem decF_struct (flex : Bool) (ver : Int) (a b null tag df : Int) (of : K) (sub : List Fld) (bs : Bs) (h : null < 0) : decF flex ver (.mk .struct a b null tag df of sub) bs = partD flex ver sub bs := by
 unfold decF
 dsimp only
 rw [if_pos h]
 rfl
theorem decF_ptr (flex : Bool) (ver : Int) (a b null tag df : Int) (of : K) (sub : List Fld) (bs : Bs) (h : ¬ null < 0) : decF flex ver (.mk .struct a b null tag df of sub) bs =
  (rS 1 bs).bind fun p => if p.1 = -1 then some (.pnil, p.2) else (partD flex ver sub p.2).map fun x => (.ptr x.1, x.2) := by
 unfold decF
 dsimp only
 rw [if_neg h]
 rfl
def oneD (flex : Bool) (ver : Int) (of : K) (sub : List Fld) (bs : Bs) : Option (D × Bs) := match of with | .struct => partD flex ver sub bs | k => rK k flex bs
theorem decF_list (flex : Bool) (ver : Int) (a b null tag df : Int) (of : K) (sub : List Fld) (bs : Bs) : decF flex ver (.mk .list a b null tag df of sub) bs =
  (rLen flex bs).bind fun n => (rMany (oneD flex ver of sub) n.1.toNat n.2).map fun x => (.arr (nilArr null ver n.1) x.1, x.2) := by
 unfold decF oneD
 dsimp only
 congr 1
 funext n
 congr 2
 funext b
 cases of <;> rfl
def elE (flex : Bool) (ver : Int) (of : K) (sub : List Fld) (x : D) : Bs := match of with | .struct => oneE flex ver sub x | k => encK k flex x
def elN (flex : Bool) (ver : Int) (of : K) (sub : List Fld) (x : D) : D := match of with
 | .struct => (match x with | .struct ds t => .struct (nrmL flex ver sub ds) (nrmT flex t) | y => y)
 | _ => x
theorem encF_listE (flex : Bool) (ver : Int) (a b null tag df : Int) (of : K) (sub : List Fld) (nil : Bool) (l : List D) : zbq flex ver (.mk .list a b null tag df of sub) (.arr nil l) =
  (if null < 0 ∨ ver < null then encLen flex l.length else encNLen flex nil l.length) ++ l.flatMap (elE flex ver of sub) := by
 rw [encF_list]
 congr 1
 cases of <;> rfl
theorem nrmF_list (flex : Bool) (ver : Int) (a b null tag df : Int) (of : K) (sub : List Fld) (nil : Bool) (l : List D) : nrmF flex ver (.mk .list a b null tag df of sub) (.arr nil l) =
  .arr (if null < 0 then l.isEmpty else if ver < null then false else nil) (l.map (elN flex ver of sub)) := by
 unfold nrmF
 dsimp only
 congr 1
 cases of <;> first | rfl | (show l = l.map fun x => x; simp)
theorem flatMap_len {α : Type} (f : α → Bs) : ∀ (l : List α), (∀ x ∈ l, 1 ≤ (f x).length) → l.length ≤ (l.flatMap f).length
 | [], _ => by simp
 | x :: l, h => by
  have h1 := h x (by simp)
  have h2 := flatMap_len f l fun y hy => h y (by simp [hy])
  simp only [List.flatMap_cons, List.length_append, List.length_cons]; omega
theorem flatMap_mem_len {α : Type} (f : α → Bs) : ∀ (l : List α) (x : α), x ∈ l → (f x).length ≤ (l.flatMap f).length
 | y :: l, x, h => by
  simp only [List.flatMap_cons, List.length_append]
  rcases List.mem_cons.1 h with rfl | h
  ·omega
  ·have := flatMap_mem_len f l x h; omega
set_option linter.all false
theorem list_enc (flex : Bool) (ver : Int) (a b null tag df : Int) (of : K) (sub : List Fld) (nil : Bool) (l : List D) (r : Bs) (h1 : l.length ≤ 32767) (h2 : nil = true → l = [])
  (hpos : ∀ x ∈ l, 1 ≤ (elE flex ver of sub x).length) (hone : ∀ x ∈ l, ∀ r, oneD flex ver of sub (elE flex ver of sub x ++ r) = some (elN flex ver of sub x, r)) :
  decF flex ver (.mk .list a b null tag df of sub) (zbq flex ver (.mk .list a b null tag df of sub) (.arr nil l) ++ r) = some (nrmF flex ver (.mk .list a b null tag df of sub) (.arr nil l), r) := by
 rw [decF_list, encF_listE, nrmF_list, List.append_assoc]
 have hm := rMany_enc (oneD flex ver of sub) (elE flex ver of sub) (elN flex ver of sub) l r hone
 have hlen := flatMap_len (elE flex ver of sub) l hpos
 have fin : ∀ (n : Int) (nil' : Bool), n.toNat = l.length → nilArr null ver n = nil' →
   ((some (n, l.flatMap (elE flex ver of sub) ++ r) : Option (Int × Bs)).bind fun n => (rMany (oneD flex ver of sub) n.1.toNat n.2).map fun x => (D.arr (nilArr null ver n.1) x.1, x.2)) = some (.arr nil' (l.map (elN flex ver of sub)), r) := by
  intro n nil' hn hnil
  show ((rMany (oneD flex ver of sub) n.toNat (l.flatMap (elE flex ver of sub) ++ r)).map fun x => (D.arr (nilArr null ver n) x.1, x.2)) = _
  rw [hn, hm, hnil]
  rfl
 have hL := rLen_enc flex l.length (l.flatMap (elE flex ver of sub) ++ r) h1 (by rw [List.length_append]; omega)
 by_cases hc : null < 0 ∨ ver < null
 ·rw [if_pos hc, hL]
  refine fin _ _ (by omega) ?_
  unfold nilArr
  by_cases hn : null < 0
  ·rw [if_pos hn, if_pos hn]
   cases l <;> simp <;> omega
  ·rw [if_neg hn, if_neg hn, if_pos (by omega)]
   simp; omega
 ·rw [if_neg hc]
  rw [if_neg (by omega), if_neg (by omega)]
  cases nil with
  | true =>
   have := h2 rfl
   subst this
   have hN := rLen_null flex ([].flatMap (elE flex ver of sub) ++ r)
   simp only [List.length_nil]
   rw [hN]
   refine fin _ _ rfl ?_
   unfold nilArr
   rw [if_neg (by omega)]
   simp; omega
  | false =>
   have e : encNLen flex false l.length = encLen flex l.length := by unfold encNLen; rw [if_neg (by simp)]
   rw [e, hL]
   refine fin _ _ (by omega) ?_
   unfold nilArr
   rw [if_neg (by omega)]
   simp; omega
theorem be_m1 : be 1 (-1) = [255] := by decide
theorem be_p1 : be 1 1 = [1] := by decide
mutual
theorem fenc_F (flex : Bool) (ver : Int) : ∀ {f : Fld}, goodF flex ver f = true → FEnc flex ver f
 | .mk k a b null tag df of sub, hg => by
  intro d r ok hl
  unfold goodF at hg
  simp only [Bool.and_eq_true] at hg
  obtain ⟨⟨hk, _⟩, hs⟩ := hg
  have part : ∀ (s : S) (r : Bs), okLD flex sub s.ds → okT flex sub s.tags → (partE flex ver sub s.ds s.tags).length ≤ 2147483648 → partD flex ver sub (oneE flex ver sub s.d ++ r) = some (.struct (nrmL flex ver sub s.ds) (nrmT flex s.tags), r) :=
   fun s r o1 o2 o3 => part_enc flex ver sub s.ds s.tags r (fenc_L flex ver hs) hs o1 o2 o3
  have prim : ∀ k, okKD k d → rK k flex (encK k flex d ++ r) = some (d, r) := fun k h => rK_enc k flex d r h
  cases k <;> try (unfold okFD at ok; unfold zbq decF nrmF; exact prim _ ok)
  ·
   unfold okFD at ok
   unfold zbq decF nrmF
   dsimp only at ok ⊢
   by_cases h : null < 0
   ·rw [if_pos h] at ok
    rw [if_pos h, if_pos h, if_pos h]
    exact prim _ ok
   ·rw [if_neg h] at ok
    rw [if_neg h, if_neg h, if_neg h]
    cases d <;> first | exact ok.elim | skip
    rename_i o
    dsimp only at ok ⊢
    by_cases h2 : ver < null
    ·rw [if_pos h2, if_pos h2, if_pos h2]
     have h3 : (o.getD []).length ≤ 32767 := by cases o <;> first | (simp; done) | exact ok
     exact zbs (fun x : Bs × Bs => (D.nstr (some x.1), x.2)) (rStr_enc flex _ r h3)
    ·rw [if_neg h2, if_neg h2, if_neg h2]
     exact zbs (fun x : Option Bs × Bs => (D.nstr x.1, x.2)) (rNStr_enc flex o r (by rintro l rfl; exact ok))
  ·
   unfold okFD at ok
   dsimp only at ok
   by_cases h : null < 0
   ·rw [if_pos h] at ok
    obtain ⟨s, rfl, h1, h2⟩ := ok
    rw [encF_struct _ _ _ _ _ _ _ _ _ _ h] at hl ⊢
    rw [decF_struct _ _ _ _ _ _ _ _ _ _ h, part s r h1 h2 hl]
    unfold nrmF
    dsimp only
    rw [if_pos h]
    rfl
   ·rw [if_neg h] at ok
    cases d <;> first | exact ok.elim | skip
    ·rw [encF_pnil _ _ _ _ _ _ _ _ _ h, decF_ptr _ _ _ _ _ _ _ _ _ _ h]
     rw [← be_m1, rS_be 1 (-1) r (by omega) (by omega)]
     unfold nrmF
     dsimp only
     rw [if_neg h]
     rfl
    ·rename_i x
     obtain ⟨s, rfl, h1, h2⟩ := ok
     rw [encF_ptr _ _ _ _ _ _ _ _ _ _ h] at hl ⊢
     rw [decF_ptr _ _ _ _ _ _ _ _ _ _ h]
     have h3 : rS 1 (1 :: oneE flex ver sub s.d ++ r) = some (1, oneE flex ver sub s.d ++ r) := by
      have := rS_be 1 1 (oneE flex ver sub s.d ++ r) (by omega) (by omega)
      rw [be_p1] at this
      exact this
     rw [h3]
     have h4 := part s r h1 h2 (by
      have e : oneE flex ver sub s.d = partE flex ver sub s.ds s.tags := rfl
      rw [e] at hl
      simp only [List.length_cons] at hl; omega)
     show (if (1 : Int) = -1 then some (D.pnil, oneE flex ver sub s.d ++ r) else (partD flex ver sub (oneE flex ver sub s.d ++ r)).map fun x => (D.ptr x.1, x.2)) = _
     rw [if_neg (by decide), h4]
     unfold nrmF
     dsimp only
     rw [if_neg h]
     rfl
  ·
   unfold okFD at ok
   dsimp only at ok
   cases d <;> first | exact ok.elim | skip
   rename_i nil l
   obtain ⟨h1, h2, h3⟩ := ok
   simp only [Bool.and_eq_true, Bool.or_eq_true, decide_eq_true_eq] at hk
   rw [encF_listE, List.length_append] at hl
   by_cases hof : of = .struct
   ·subst hof
    refine list_enc flex ver a b null tag df .struct sub nil l r h1 h2 (fun x hx => ?_) (fun x hx r => ?_)
    ·obtain ⟨s, rfl, h4, h5⟩ := h3 x hx
     exact part_pos (by
      rcases hk.2 with h | h
      ·exact absurd rfl h
      ·exact h) h4
    ·obtain ⟨s, rfl, h4, h5⟩ := h3 x hx
     have hm := flatMap_mem_len (elE flex ver .struct sub) l _ hx
     have e : elE flex ver .struct sub s.d = partE flex ver sub s.ds s.tags := rfl
     rw [e] at hm
     exact part s r h4 h5 (by omega)
   ·have h3' : ∀ x ∈ l, okKD of x := by
     intro x hx
     have := h3 x hx
     cases of <;> first | exact absurd rfl hof | exact this
    have e1 : elE flex ver of sub = encK of flex := by
     funext x; cases of <;> first | exact absurd rfl hof | rfl
    have e2 : elN flex ver of sub = fun x => x := by
     funext x; cases of <;> first | exact absurd rfl hof | rfl
    have e3 : oneD flex ver of sub = rK of flex := by
     funext x; cases of <;> first | exact absurd rfl hof | rfl
    refine list_enc flex ver a b null tag df of sub nil l r h1 h2 (fun x hx => ?_) (fun x hx r => ?_)
    ·rw [e1]; exact encK_pos of flex x (h3' x hx)
    ·rw [e1, e2, e3]; exact rK_enc of flex x r (h3' x hx)
theorem fenc_L (flex : Bool) (ver : Int) : ∀ {fs : List Fld}, goodL flex ver fs = true → ∀ f ∈ fs, FEnc flex ver f
 | [], _, f, hf => by cases hf
 | g :: r, hg, f, hf => by
  unfold goodL at hg
  simp only [Bool.and_eq_true] at hg
  rcases List.mem_cons.1 hf with h | h
  ·rw [h]; exact fenc_F flex ver hg.1.1
  ·exact fenc_L flex ver hg.2 f h
end
theorem decPart_enc (flex : Bool) (ver : Int) (fs : List Fld) (s : S) (r : Bs) (hg : goodL flex ver fs = true) (ok : okLD flex fs s.ds) (okt : okT flex fs s.tags) (hl : (encPart flex ver fs s).length ≤ 2147483648) :
  decPart flex ver fs (encPart flex ver fs s ++ r) = some (⟨nrmL flex ver fs s.ds, nrmT flex s.tags⟩, r) := by
 have h := part_enc flex ver fs s.ds s.tags r (fenc_L flex ver hg) hg ok okt hl
 unfold partD at h
 have e : partE flex ver fs s.ds s.tags = encPart flex ver fs s := rfl
 rw [e] at h
 cases hd : decPart flex ver fs (encPart flex ver fs s ++ r) with
 | none => rw [hd] at h; cases h
 | some x =>
  rw [hd] at h
  obtain ⟨⟨ds, t⟩, r'⟩ := x
  simp only [Option.map_some, S.d, Option.some.injEq, Prod.mk.injEq, D.struct.injEq] at h
  obtain ⟨⟨rfl, rfl⟩, rfl⟩ := h
  rfl
set_option linter.all false
def FSame (flex : Bool) (ver : Int) (f : Fld) : Prop := ∀ d, okFD flex f d → zbq flex ver f (nrmF flex ver f d) = zbq flex ver f d
theorem nrmT_enc {fs : List Fld} {t : za5} (h : okT true fs t) : (nrmT true t).length = t.length ∧ zaW (nrmT true t) = zaW t := by
 have hw := (okT_true h).1
 have e : nrmT true t = zaO t := by unfold nrmT; rw [if_pos rfl]
 rw [e]
 refine ⟨tagSort_len t, ?_⟩
 unfold zaW
 rw [tagSort_id _ (tagSort_rising t hw.2.1)]
theorem encL_same (flex : Bool) (ver : Int) : ∀ (fs : List Fld) (ds : List D), (∀ f ∈ fs, FSame flex ver f) → okLD flex fs ds → encL flex ver fs (nrmL flex ver fs ds) = encL flex ver fs ds
 | [], ds, _, h => by unfold okLD at h; subst h; rfl
 | f :: fs, ds, H, h => by
  unfold okLD at h
  obtain ⟨d, ds', rfl, h1, h2⟩ := h
  rw [nrmL, encL, encL, encL_same flex ver fs ds' (fun g hg => H g (by simp [hg])) h2]
  congr 1
  by_cases hc : (decide (f.tag < 0) && f.has ver) = true
  ·rw [if_pos hc, if_pos hc]
   simp only [Bool.and_eq_true, decide_eq_true_eq] at hc
   rw [if_pos hc.1, if_pos hc.2]
   exact H f (by simp) d h1
  ·rw [if_neg hc, if_neg hc]
theorem unusual_dflt {flex : Bool} {ver : Int} {f : Fld} (hg : goodF flex ver f = true) (ht : ¬ f.tag < 0) : zaX (dfltF f) = false := by
 cases f with
 | mk k a b null tag df of sub =>
  unfold goodF at hg
  simp only [Bool.and_eq_true, Bool.or_eq_true, decide_eq_true_eq] at hg
  simp only [Fld.tag] at ht
  rcases hg.1.2 with h | ⟨_, (h | h) | ⟨h, h2⟩⟩
  ·exact absurd h ht
  ·subst h; unfold dfltF; rfl
  ·subst h; unfold dfltF; rfl
  ·subst h; unfold dfltF; dsimp only; rw [if_neg (by omega)]; rfl
theorem unusual_nrm {flex : Bool} {ver : Int} {f : Fld} {d : D} (hg : goodF flex ver f = true) (ht : ¬ f.tag < 0) (ok : okFD flex f d) (hu : zaX d = true) : zaX (nrmF flex ver f d) = true := by
 cases f with
 | mk k a b null tag df of sub =>
  unfold goodF at hg
  simp only [Bool.and_eq_true, Bool.or_eq_true, decide_eq_true_eq] at hg
  simp only [Fld.tag] at ht
  rcases hg.1.2 with h | ⟨_, (h | h) | ⟨h, h2⟩⟩
  ·exact absurd h ht
  ·subst h
   unfold okFD at ok
   dsimp only at ok
   cases d <;> first | exact ok.elim | skip
   rename_i nil l
   rw [nrmF_list]
   cases l <;> first | (simp [zaX] at hu; done) | simp [zaX]
  ·subst h; unfold nrmF; exact hu
  ·subst h
   unfold okFD at ok
   dsimp only at ok
   rw [if_neg (by omega)] at ok
   cases d <;> first | exact ok.elim | skip
   rename_i o
   unfold nrmF
   dsimp only
   rw [if_neg (by omega)]
   split
   ·rfl
   ·exact hu
theorem encKnown_same (ver : Int) : ∀ (fs : List Fld) (ds : List D), (∀ f ∈ fs, FSame true ver f) → goodL true ver fs = true → okLD true fs ds → zaH true ver fs (nrmL true ver fs ds) = zaH true ver fs ds
 | [], ds, _, _, h => by unfold okLD at h; subst h; rfl
 | f :: fs, ds, H, hg, h => by
  unfold okLD at h
  obtain ⟨d, ds', rfl, h1, h2⟩ := h
  unfold goodL at hg
  simp only [Bool.and_eq_true] at hg
  rw [nrmL, zaH, zaH, encKnown_same ver fs ds' (fun g hg => H g (by simp [hg])) hg.2 h2]
  by_cases ht : f.tag < 0
  ·rw [if_neg (by omega), if_neg (by omega)]
  ·rw [if_neg ht]
   by_cases hu : zaX d = true
   ·have hu2 := unusual_nrm hg.1.1 ht h1 hu
    have e : (true && zaX d) = true := by rw [hu]; rfl
    rw [if_pos e, if_pos ⟨by omega, hu2⟩, if_pos ⟨by omega, hu⟩, H f (by simp) d h1]
   ·have hu2 := unusual_dflt hg.1.1 ht
    have e : ¬ (true && zaX d) = true := by simpa using hu
    rw [if_neg e, if_neg (fun h => by rw [hu2] at h; cases h.2), if_neg (fun h => hu h.2)]
theorem partE_same (flex : Bool) (ver : Int) (fs : List Fld) (s : S) (H : ∀ f ∈ fs, FSame flex ver f) (hg : goodL flex ver fs = true) (ok : okLD flex fs s.ds) (okt : okT flex fs s.tags) :
  partE flex ver fs (nrmL flex ver fs s.ds) (nrmT flex s.tags) = partE flex ver fs s.ds s.tags := by
 unfold partE
 rw [encL_same flex ver fs s.ds H ok]
 cases flex with
 | false => rfl
 | true =>
  obtain ⟨h1, h2⟩ := nrmT_enc okt
  rw [encKnown_same ver fs s.ds H hg ok]
  unfold za9
  rw [h1, h2]
mutual
theorem fsame_F (flex : Bool) (ver : Int) : ∀ {f : Fld}, goodF flex ver f = true → FSame flex ver f
 | .mk k a b null tag df of sub, hg => by
  intro d ok
  unfold goodF at hg
  simp only [Bool.and_eq_true] at hg
  obtain ⟨_, hs⟩ := hg
  have part : ∀ s : S, okLD flex sub s.ds → okT flex sub s.tags → partE flex ver sub (nrmL flex ver sub s.ds) (nrmT flex s.tags) = partE flex ver sub s.ds s.tags :=
   fun s o1 o2 => partE_same flex ver sub s (fsame_L flex ver hs) hs o1 o2
  cases k <;> try (unfold nrmF; rfl)
  ·
   unfold okFD at ok
   unfold zbq nrmF
   dsimp only at ok ⊢
   by_cases h : null < 0
   ·rw [if_pos h, if_pos h, if_pos h]
   ·rw [if_neg h] at ok
    rw [if_neg h, if_neg h, if_neg h]
    cases d <;> first | exact ok.elim | skip
    dsimp only
    by_cases h2 : ver < null
    ·rw [if_pos h2, if_pos h2]
     dsimp only
     rw [if_pos h2]
     rfl
    ·rw [if_neg h2, if_neg h2]
     dsimp only
     rw [if_neg h2]
  ·
   unfold okFD at ok
   dsimp only at ok
   by_cases h : null < 0
   ·rw [if_pos h] at ok
    obtain ⟨s, rfl, h1, h2⟩ := ok
    have e : nrmF flex ver (.mk .struct a b null tag df of sub) s.d = .struct (nrmL flex ver sub s.ds) (nrmT flex s.tags) := by
     unfold nrmF; dsimp only; rw [if_pos h]; rfl
    rw [e, encF_struct _ _ _ _ _ _ _ _ _ _ h, encF_struct _ _ _ _ _ _ _ _ _ _ h]
    exact part s h1 h2
   ·rw [if_neg h] at ok
    cases d <;> first | exact ok.elim | skip
    ·unfold nrmF; dsimp only; rw [if_neg h]
    ·obtain ⟨s, rfl, h1, h2⟩ := ok
     have e : nrmF flex ver (.mk .struct a b null tag df of sub) (.ptr s.d) = .ptr (.struct (nrmL flex ver sub s.ds) (nrmT flex s.tags)) := by
      unfold nrmF; dsimp only; rw [if_neg h]; rfl
     rw [e, encF_ptr _ _ _ _ _ _ _ _ _ _ h, encF_ptr _ _ _ _ _ _ _ _ _ _ h]
     exact congrArg (fun x => (1 : UInt8) :: x) (part s h1 h2)
  ·
   unfold okFD at ok
   dsimp only at ok
   cases d <;> first | exact ok.elim | skip
   rename_i nil l
   obtain ⟨h1, h2, h3⟩ := ok
   rw [nrmF_list, encF_listE, encF_listE, List.length_map]
   congr 1
   ·by_cases hc : null < 0 ∨ ver < null
    ·rw [if_pos hc, if_pos hc]
    ·rw [if_neg hc, if_neg hc, if_neg (by omega), if_neg (by omega)]
   ·rw [List.flatMap_map]
    by_cases hof : of = .struct
    ·subst hof
     have : ∀ x ∈ l, elE flex ver .struct sub (elN flex ver .struct sub x) = elE flex ver .struct sub x := by
      intro x hx
      obtain ⟨s, rfl, h4, h5⟩ := h3 x hx
      exact part s h4 h5
     clear h1 h2 h3
     induction l with
     | nil => rfl
     | cons x l ih =>
      rw [List.flatMap_cons, List.flatMap_cons, this x (by simp), ih fun y hy => this y (by simp [hy])]
    ·have e2 : elN flex ver of sub = fun x => x := by
      funext x; cases of <;> first | exact absurd rfl hof | rfl
     rw [e2]
theorem fsame_L (flex : Bool) (ver : Int) : ∀ {fs : List Fld}, goodL flex ver fs = true → ∀ f ∈ fs, FSame flex ver f
 | [], _, f, hf => by cases hf
 | g :: r, hg, f, hf => by
  unfold goodL at hg
  simp only [Bool.and_eq_true] at hg
  rcases List.mem_cons.1 hf with h | h
  ·rw [h]; exact fsame_F flex ver hg.1.1
  ·exact fsame_L flex ver hg.2 f h
end
theorem encPart_same (flex : Bool) (ver : Int) (fs : List Fld) (s : S) (hg : goodL flex ver fs = true) (ok : okLD flex fs s.ds) (okt : okT flex fs s.tags) :
  encPart flex ver fs ⟨nrmL flex ver fs s.ds, nrmT flex s.tags⟩ = encPart flex ver fs s :=
 partE_same flex ver fs s (fsame_L flex ver hg) hg ok okt
set_option linter.all false
theorem uvarAux_le : ∀ (k n : Nat), (za2 k n).length ≤ k + 1
 | 0, _ => by simp [za2]
 | k + 1, n => by
  unfold za2
  split
  ·simp
  ·have := uvarAux_le k (n / 128); simp only [List.length_cons]; omega
theorem uvarAux_len5 (n : Nat) : (zbo n).length ≤ 5 := uvarAux_le 4 n




set_option linter.all false
theorem emod_part (n m P : Int) (hp : 0 < P) (h : n % (P * 256) = m % (P * 256)) : n / P % 256 = m / P % 256 ∧ n % P = m % P := by
 have h1 := emod_mul256 n P hp
 have h2 := emod_mul256 m P hp
 have e : n % P = m % P := by
  rw [← Int.emod_emod_of_dvd n (Int.dvd_mul_right P 256), ← Int.emod_emod_of_dvd m (Int.dvd_mul_right P 256), h]
 refine ⟨?_, e⟩
 have h3 : n / P % 256 * P = m / P % 256 * P := by omega
 exact Int.eq_of_mul_eq_mul_right (by omega) h3
theorem lw_be_congr : ∀ (k : Nat) (n m : Int), n % 256 ^ k = m % 256 ^ k → be k n = be k m
 | 0, _, _, _ => rfl
 | k + 1, n, m, h => by
  have hp := pow256 k
  rw [Int.pow_succ] at h
  obtain ⟨h1, h2⟩ := emod_part n m (256 ^ k) hp h
  unfold be
  rw [lw_be_congr k n m h2]
  congr 1
  unfold byte
  rw [h1]
def sgnI (k : Nat) (n : Int) : Int := (n + 256 ^ k / 2) % 256 ^ k - 256 ^ k / 2
theorem be_sgnI (k : Nat) (n : Int) : be k (sgnI k n) = be k n := by
 refine lw_be_congr k _ _ ?_
 unfold sgnI
 rw [Int.sub_emod, Int.emod_emod_of_dvd _ (Int.dvd_refl _), ← Int.sub_emod]
 congr 1
 omega
theorem be_mod (k : Nat) (n : Int) : be k (n % 256 ^ k) = be k n := lw_be_congr k _ _ (Int.emod_emod_of_dvd _ (Int.dvd_refl _))
def dtK (k : K) (v : Tr) : D := match k with
 | .bool => .bool (v.n % 2 != 0)
 | .i8 => .int (sgnI 1 v.n) | .i16 => .int (sgnI 2 v.n) | .i32 => .int (sgnI 4 v.n) | .i64 => .int (sgnI 8 v.n)
 | .u16 => .int (v.n % 65536)
 | .f64 => .f64 (v.n % 18446744073709551616).toNat
 | .uuid => .uuid ((v.b ++ List.replicate 16 0).take 16)
 | .text => .str (v.b.take zbu)
 | .bytes => .bytes (v.b.take zbu)
 | _ => .pnil
def dtT (flex : Bool) (fs : List Fld) (t : za5) : za5 := if flex then (zba fs t).map fun x => (x.1, x.2.take zbu) else []
mutual
def dtF (flex : Bool) (ver : Int) : Fld → Tr → D
 | .mk k _ _ nl _ _ of sub, v => match k with
  | .list => .arr (za1 nl ver v) ((if za1 nl ver v then [] else v.l.take zbu).map fun x => match of with
   | .struct => .struct (dtL flex ver sub x 0) (dtT flex sub x.t)
   | k => dtK k x)
  | .struct => if nl < 0 then .struct (dtL flex ver sub v 0) (dtT flex sub v.t) else if za1 nl ver v then .pnil else .ptr (.struct (dtL flex ver sub v 0) (dtT flex sub v.t))
  | .text => if nl < 0 then .str (v.b.take zbu) else if za1 nl ver v then .nstr none else .nstr (some (v.b.take zbu))
  | k => dtK k v
def dtL (flex : Bool) (ver : Int) : List Fld → Tr → Nat → List D
 | [], _, _ => []
 | f :: r, v, i => dtF flex ver f (v.th i) :: dtL flex ver r v (i + 1)
end
def tagNF : Fld → Bool
 | .mk k _ _ nl tag _ _ _ => decide (tag < 0) || (decide (tag = 0) && ((decide (k = .uuid) && decide (nl < 0)) || (decide (k = .text) && decide (nl = 0))))
def tagN (fs : List Fld) : Bool := decide (fs.length ≤ 65536) && fs.all tagNF
def tagTF : Fld → Bool
 | .mk k _ _ nl tag _ _ _ => decide (tag < 0) || (decide (tag = 0) && ((decide (k = .uuid) && decide (nl < 0)) || (decide (k = .text) && decide (nl = 0)) || (decide (k = .list) && decide (nl < 0))))
def tagT (fs : List Fld) : Bool := decide (fs.length ≤ 65536) && fs.all tagTF
mutual
def plnF : Fld → Bool
 | .mk k _ _ nl _ _ of sub => (decide (k = .list) || decide (k = .struct) || decide (k = .text) || decide (nl < 0)) && (decide (k ≠ .list) || decide (of ≠ .list)) && (plnL sub && tagN sub)
def plnL : List Fld → Bool
 | [] => true
 | f :: r => plnF f && plnL r
end
def plainL (fs : List Fld) : Bool := plnL fs && tagT fs
mutual
def keyV : Tr → Prop
 | .mk _ _ _ l t => (∀ x ∈ t, x.1 < 4294967296) ∧ keyL l
def keyL : List Tr → Prop
 | [] => True
 | v :: r => keyV v ∧ keyL r
end
theorem keyL.mem : ∀ {l : List Tr}, keyL l → ∀ x ∈ l, keyV x
 | [], _, x, hx => by cases hx
 | v :: r, h, x, hx => by
  unfold keyL at h
  rcases List.mem_cons.1 hx with rfl | hx
  ·exact h.1
  ·exact keyL.mem h.2 x hx
theorem keyV.parts {v : Tr} (h : keyV v) : (∀ x ∈ v.t, x.1 < 4294967296) ∧ keyL v.l := by
 cases v; unfold keyV at h; exact h
theorem keyV_zero : keyV Tr.zero := by unfold Tr.zero keyV keyL; exact ⟨fun x h => (by cases h), trivial⟩
theorem keyV.th {v : Tr} (h : keyV v) (i : Nat) : keyV (v.th i) := by
 unfold Tr.th
 cases hh : v.l[i]? with
 | none => exact keyV_zero
 | some x => exact h.parts.2.mem x (List.mem_of_getElem? hh)
theorem tagNF_T {f : Fld} (h : tagNF f = true) : tagTF f = true := by
 cases f
 unfold tagNF at h
 unfold tagTF
 simp only [Bool.and_eq_true, Bool.or_eq_true, decide_eq_true_eq] at h ⊢
 rcases h with h | ⟨h, h2⟩
 ·exact .inl h
 ·exact .inr ⟨h, .inl h2⟩
theorem tagN_T {fs : List Fld} (h : tagN fs = true) : tagT fs = true := by
 unfold tagN at h
 unfold tagT
 simp only [Bool.and_eq_true, List.all_eq_true] at h ⊢
 exact ⟨h.1, fun f hf => tagNF_T (h.2 f hf)⟩
theorem tag01 {fs : List Fld} (h : tagT fs = true) : ∀ f ∈ fs, f.tag < 0 ∨ f.tag = 0 := fun f hf => by
 unfold tagT at h
 simp only [Bool.and_eq_true, List.all_eq_true] at h
 have := h.2 f hf
 cases f
 unfold tagTF at this
 simp only [Bool.and_eq_true, Bool.or_eq_true, decide_eq_true_eq] at this
 rcases this with h | h
 ·exact .inl h
 ·exact .inr h.1
theorem sKnown_le1 : ∀ (fs : List Fld) (m : Nat), (∀ f ∈ fs, f.tag < 0 ∨ f.tag = 0) → m ≤ 1 → zbn fs m ≤ 1 ∧ m ≤ zbn fs m
 | [], m, _, hm => ⟨hm, Nat.le_refl _⟩
 | f :: r, m, h, hm => by
  unfold zbn
  have h0 := h f List.mem_cons_self
  have hr : ∀ g ∈ r, g.tag < 0 ∨ g.tag = 0 := fun g hg => h g (List.mem_cons_of_mem _ hg)
  split
  ·have e : f.tag.toNat = 0 := by omega
   rw [e]
   have := sKnown_le1 r (max m (0 + 1)) hr (by omega)
   omega
  ·exact sKnown_le1 r m hr hm
theorem sKnown_one : ∀ (fs : List Fld) (m : Nat), (∀ f ∈ fs, f.tag < 0 ∨ f.tag = 0) → m ≤ 1 → ∀ f ∈ fs, f.tag = 0 → zbn fs m = 1
 | [], _, _, _, f, hf, _ => by cases hf
 | g :: r, m, h, hm, f, hf, e => by
  have hr : ∀ g ∈ r, g.tag < 0 ∨ g.tag = 0 := fun g hg => h g (List.mem_cons_of_mem _ hg)
  have h0 := h g List.mem_cons_self
  rcases List.mem_cons.1 hf with rfl | hf
  ·unfold zbn
   rw [if_pos (by omega)]
   have e : f.tag.toNat = 0 := by omega
   rw [e]
   have := sKnown_le1 r (max m (0 + 1)) hr (by omega)
   omega
  ·unfold zbn
   refine sKnown_one r _ hr ?_ f hf e
   split
   ·have e : g.tag.toNat = 0 := by omega
    rw [e]; omega
   ·exact hm
theorem sT_no {flex : Bool} {ver : Int} {g : Nat} : ∀ (fs : List Fld) (v : Tr) (i : Nat), (∀ f ∈ fs, f.tag ≠ (g : Int)) → sT flex ver fs g v i = (0, [])
 | [], _, _, _ => by unfold sT; rfl
 | f :: r, v, i, h => by
  unfold sT
  rw [sT_no r v (i + 1) fun x hx => h x (List.mem_cons_of_mem _ hx)]
  have := h f List.mem_cons_self
  simp [this]
theorem sum_known {flex : Bool} {ver : Int} {fs : List Fld} (h : ∀ f ∈ fs, f.tag < 0 ∨ f.tag = 0) (v : Tr) : sumTags ((List.range (zbn fs 0)).map fun g => sT flex ver fs g v 0) = sT flex ver fs 0 v 0 := by
 by_cases hx : ∃ f ∈ fs, f.tag = 0
 ·obtain ⟨f, hf, e⟩ := hx
  rw [sKnown_one fs 0 h (by decide) f hf e]
  simp [sumTags, List.range_succ]
 ·have hn : ∀ f ∈ fs, f.tag ≠ ((0 : Nat) : Int) := fun f hf e => hx ⟨f, hf, by simpa using e⟩
  rw [sT_no fs v 0 hn]
  have e : zbn fs 0 ≤ 1 := (sKnown_le1 fs 0 h (by decide)).1
  rcases Nat.lt_or_ge (zbn fs 0) 1 with h1 | h1
  ·have : zbn fs 0 = 0 := by omega
   rw [this]; rfl
  ·have : zbn fs 0 = 1 := by omega
   rw [this]
   simp [sumTags, List.range_succ, sT_no fs v 0 hn]
theorem sT_cnt {flex : Bool} {ver : Int} : ∀ (fs : List Fld) (v : Tr) (i : Nat), (sT flex ver fs 0 v i).1 ≤ fs.length
 | [], _, _ => by unfold sT; simp
 | f :: r, v, i => by
  have := sT_cnt (flex := flex) (ver := ver) r v (i + 1)
  unfold sT
  dsimp only
  split <;> simp only [List.length_cons] <;> omega
theorem sT_ge {flex : Bool} {ver : Int} : ∀ (fs : List Fld) (v : Tr) (i k : Nat) (f : Fld), fs[k]? = some f → f.tag = 0 → sUsual f (v.th (i + k)) = false → (sF flex ver f (v.th (i + k))).length ≤ (sT flex ver fs 0 v i).2.length
 | [], _, _, _, _, h, _, _ => by simp at h
 | g :: r, v, i, 0, f, h, ht, hu => by
  simp at h; subst h
  rw [Nat.add_zero] at hu ⊢
  unfold sT
  dsimp only
  rw [if_pos (by simp [ht, hu])]
  simp only [List.length_append]; omega
 | g :: r, v, i, k + 1, f, h, ht, hu => by
  have e : i + (k + 1) = i + 1 + k := by omega
  rw [e] at hu ⊢
  have := sT_ge (flex := flex) (ver := ver) r v (i + 1) k f (by simpa using h) ht hu
  unfold sT
  dsimp only
  split
  ·simp only [List.length_append]; omega
  ·exact this
theorem mem_unkIns (x : Nat × Bs) : ∀ (l : za5) (y : Nat × Bs), y ∈ unkIns x l → y = x ∨ y ∈ l
 | [], y, h => by simp [unkIns] at h; exact .inl h
 | z :: r, y, h => by
  unfold unkIns at h
  split at h
  ·rcases List.mem_cons.1 h with rfl | h
   ·exact .inr List.mem_cons_self
   ·rcases mem_unkIns x r y h with h | h
    ·exact .inl h
    ·exact .inr (List.mem_cons_of_mem _ h)
  ·split at h
   ·exact .inr h
   ·rcases List.mem_cons.1 h with rfl | h
    ·exact .inl rfl
    ·exact .inr h
theorem unkIns_rising (x : Nat × Bs) : ∀ (l : za5), Rising l → Rising (unkIns x l)
 | [], _ => by simp [unkIns, Rising]
 | z :: r, h => by
  unfold Rising at h
  unfold unkIns
  split
  ·rename_i hz
   unfold Rising
   refine ⟨fun y hy => ?_, unkIns_rising x r h.2⟩
   rcases mem_unkIns x r y hy with rfl | hy
   ·exact hz
   ·exact h.1 y hy
  ·rename_i hz
   split
   ·unfold Rising; exact h
   ·rename_i he
    unfold Rising
    refine ⟨fun y hy => ?_, by unfold Rising; exact h⟩
    rcases List.mem_cons.1 hy with rfl | hy
    ·omega
    ·have := h.1 y hy; omega
theorem lw_unkIns_len (x : Nat × Bs) : ∀ (l : za5), (unkIns x l).length ≤ l.length + 1
 | [] => by simp [unkIns]
 | z :: r => by
  unfold unkIns
  have := lw_unkIns_len x r
  split
  ·simp; omega
  ·split <;> simp
theorem sUnkFrom_ok (k : Nat) : ∀ (t acc : za5), Rising acc → (∀ x ∈ t, x.1 < 4294967296) → (∀ x ∈ acc, x.1 < 4294967296) → Rising (zbm k t acc) ∧ (∀ x ∈ zbm k t acc, x.1 < 4294967296) ∧ (zbm k t acc).length ≤ acc.length + t.length
 | [], acc, h, _, h2 => ⟨h, h2, by simp [zbm]⟩
 | x :: r, acc, h, h1, h2 => by
  unfold zbm
  have hr : ∀ y ∈ r, y.1 < 4294967296 := fun y hy => h1 y (List.mem_cons_of_mem _ hy)
  split
  ·obtain ⟨a1, a2, a3⟩ := sUnkFrom_ok k r acc h hr h2
   exact ⟨a1, a2, by simp; omega⟩
  ·obtain ⟨a1, a2, a3⟩ := sUnkFrom_ok k r (unkIns x acc) (unkIns_rising x acc h) hr fun y hy => by
    rcases mem_unkIns x acc y hy with rfl | hy
    ·exact h1 y List.mem_cons_self
    ·exact h2 y hy
   have := lw_unkIns_len x acc
   exact ⟨a1, a2, by simp; omega⟩
theorem sUnknown_ok (fs : List Fld) (t : za5) (h : ∀ x ∈ t, x.1 < 4294967296) : Rising (zba fs t) ∧ (∀ x ∈ zba fs t, x.1 < 4294967296) ∧ (zba fs t).length ≤ 32767 := by
 obtain ⟨a1, a2, a3⟩ := sUnkFrom_ok (zbn fs 0) (t.take zbu) [] trivial (fun x hx => h x (List.mem_of_mem_take hx)) (fun x hx => by cases hx)
 refine ⟨a1, a2, Nat.le_trans a3 ?_⟩
 simp only [List.length_nil, List.length_take, zbu]; omega
theorem rising_map : ∀ (t : za5), Rising t → Rising (t.map fun x => (x.1, x.2.take zbu))
 | [], _ => trivial
 | x :: r, h => by
  unfold Rising at h
  rw [List.map_cons]
  unfold Rising
  refine ⟨fun y hy => ?_, rising_map r h.2⟩
  obtain ⟨z, hz, rfl⟩ := List.mem_map.1 hy
  exact h.1 z hz
theorem dtake_most (l : Bs) : (l.take zbu).length ≤ 32767 := by simp only [List.length_take, zbu]; omega
theorem sUnk_ge (k : Nat) : ∀ (t acc : za5), (∀ x ∈ acc, k ≤ x.1) → ∀ x ∈ zbm k t acc, k ≤ x.1
 | [], acc, h => h
 | x :: r, acc, h => by
  unfold zbm
  split
  ·exact sUnk_ge k r acc h
  ·refine sUnk_ge k r _ fun y hy => ?_
   rcases mem_unkIns x acc y hy with rfl | hy
   ·omega
   ·exact h y hy
theorem dtT_okT {flex : Bool} {fs : List Fld} {t : za5} (hfs : ∀ f ∈ fs, f.tag < 0 ∨ f.tag = 0) (h : ∀ x ∈ t, x.1 < 4294967296) : okT flex fs (dtT flex fs t) := by
 unfold okT dtT
 cases flex with
 | false => rw [if_neg (by decide), if_neg (by decide)]
 | true =>
  rw [if_pos rfl, if_pos rfl]
  obtain ⟨a1, a2, a3⟩ := sUnknown_ok fs t h
  have hr := rising_map _ a1
  refine ⟨⟨fun x hx => ?_, hr.nodup, by simpa using a3⟩, fun x hx f hf => ?_⟩
  rotate_left
  ·obtain ⟨y, hy, rfl⟩ := List.mem_map.1 hx
   rcases hfs f hf with h | h
   ·omega
   ·have h1 := sKnown_one fs 0 hfs (by decide) f hf h
    have h2 := sUnk_ge (zbn fs 0) (t.take zbu) [] (fun x hx => by cases hx) y hy
    dsimp only; omega
  obtain ⟨y, hy, rfl⟩ := List.mem_map.1 hx
  exact ⟨a2 y hy, dtake_most _⟩
theorem dflatMap_cg {α : Type} {f g : α → Bs} : ∀ {l : List α}, (∀ x ∈ l, f x = g x) → l.flatMap f = l.flatMap g
 | [], _ => rfl
 | x :: r, h => by rw [List.flatMap_cons, List.flatMap_cons, h x List.mem_cons_self, dflatMap_cg fun y hy => h y (List.mem_cons_of_mem _ hy)]
theorem tags_same {n : Nat} {kb : Bs} (hn : n ≤ 65536) {fs : List Fld} {t : za5} (h : ∀ x ∈ t, x.1 < 4294967296) : za9 n kb (dtT true fs t) = sTags (n, kb) (zba fs t) := by
 obtain ⟨a1, a2, a3⟩ := sUnknown_ok fs t h
 unfold za9 sTags zaW sUnkEach dtT
 rw [if_pos rfl, tagSort_id _ (rising_map _ a1), List.length_map, Nat.mod_eq_of_lt (by omega), List.flatMap_map]
 refine congrArg (fun z => _ ++ (kb ++ z)) (dflatMap_cg fun x hx => ?_)
 unfold encTag
 dsimp only
 rw [Nat.mod_eq_of_lt (by have := dtake_most x.2; omega)]
theorem sgnI_range (k : Nat) (n : Int) : -(256 ^ k / 2) ≤ sgnI k n ∧ sgnI k n < 256 ^ k - 256 ^ k / 2 := by
 unfold sgnI
 have hp := pow256 k
 have h1 := Int.emod_nonneg (n + 256 ^ k / 2) (Int.ne_of_gt hp)
 have h2 := Int.emod_lt_of_pos (n + 256 ^ k / 2) hp
 omega
theorem dtK_ok (k : K) (v : Tr) (h1 : k ≠ .struct) (h2 : k ≠ .list) : okKD k (dtK k v) := by
 have r1 := sgnI_range 1 v.n
 have r2 := sgnI_range 2 v.n
 have r4 := sgnI_range 4 v.n
 have r8 := sgnI_range 8 v.n
 cases k <;> first | exact absurd rfl h1 | exact absurd rfl h2 | skip
 ·trivial
 ·show -128 ≤ sgnI 1 v.n ∧ sgnI 1 v.n < 128; omega
 ·show -32768 ≤ sgnI 2 v.n ∧ sgnI 2 v.n < 32768; omega
 ·show -2147483648 ≤ sgnI 4 v.n ∧ sgnI 4 v.n < 2147483648; omega
 ·show -9223372036854775808 ≤ sgnI 8 v.n ∧ sgnI 8 v.n < 9223372036854775808; omega
 ·show 0 ≤ v.n % 65536 ∧ v.n % 65536 < 65536; omega
 ·show (v.n % 18446744073709551616).toNat < 18446744073709551616; omega
 ·show ((v.b ++ List.replicate 16 0).take 16).length = 16; simp
 ·show (v.b.take zbu).length ≤ 32767; exact dtake_most _
 ·show (v.b.take zbu).length ≤ 32767; exact dtake_most _
theorem dtK_enc (k : K) (flex : Bool) (v : Tr) (h1 : k ≠ .struct) (h2 : k ≠ .list) : encK k flex (dtK k v) = sNoStruct k flex false v := by
 have lm := dtake_most v.b
 cases k <;> first | exact absurd rfl h1 | exact absurd rfl h2 | skip
 ·show [if (v.n % 2 != 0) = true then (1 : UInt8) else 0] = [byte (v.n % 2)]
  by_cases h : v.n % 2 = 0
  ·rw [h]; rfl
  ·have h' : v.n % 2 = 1 := by omega
   rw [h']; rfl
 ·exact be_sgnI 1 v.n
 ·exact be_sgnI 2 v.n
 ·exact be_sgnI 4 v.n
 ·exact be_sgnI 8 v.n
 ·exact be_mod 2 v.n
 ·show be 8 (((v.n % 18446744073709551616).toNat : Nat) : Int) = be 8 v.n
  rw [Int.toNat_of_nonneg (by omega)]
  exact be_mod 8 v.n
 ·rfl
 ·show encStr flex (v.b.take zbu) = sCount flex false (v.b.take zbu).length 2 ++ v.b.take zbu
  unfold encStr sCount
  cases flex
  ·rfl
  ·simp only [if_true, Bool.and_false, Bool.false_eq_true, if_false]
   rw [Nat.mod_eq_of_lt (by omega), Nat.add_comm]
 ·show encByt flex (v.b.take zbu) = sCount flex false (v.b.take zbu).length 4 ++ v.b.take zbu
  unfold encByt sCount
  cases flex
  ·rfl
  ·simp only [if_true, Bool.and_false, Bool.false_eq_true, if_false]
   rw [Nat.mod_eq_of_lt (by omega), Nat.add_comm]
theorem uuid_any (b : Bs) : ((b ++ List.replicate 16 0).take 16).any (· != 0) = !(b.take 16).all (· == 0) := by
 rw [List.take_append, List.any_append]
 have e : ((List.replicate 16 (0 : UInt8)).take (16 - b.length)).any (· != 0) = false := by
  rw [List.any_eq_false]
  intro x hx
  have := List.eq_of_mem_replicate (List.mem_of_mem_take hx)
  subst this; decide
 rw [e, Bool.or_false]
 induction b.take 16 with
 | nil => rfl
 | cons x r ih => rw [List.any_cons, List.all_cons, ih]; cases h : (x == 0) <;> simp [bne, h]
theorem unusual_same {flex : Bool} {ver : Int} (hv : 0 ≤ ver) {f : Fld} {v : Tr} (h : tagTF f = true) (ht : f.tag = 0) : zaX (dtF flex ver f v) = !sUsual f v := by
 cases f with
 | mk k a b nl tag df of sub =>
 unfold tagTF at h
 have ht' : tag = 0 := ht
 subst ht'
 simp only [Bool.and_eq_true, Bool.or_eq_true, decide_eq_true_eq] at h
 rcases h with h | ⟨_, (⟨rfl, h⟩ | ⟨rfl, rfl⟩) | ⟨rfl, h⟩⟩
 ·omega
 ·show zaX (dtF flex ver (.mk .uuid a b nl 0 df of sub) v) = _
  have e : dtF flex ver (.mk .uuid a b nl 0 df of sub) v = .uuid ((v.b ++ List.replicate 16 0).take 16) := by unfold dtF; rfl
  rw [e]
  unfold sUsual zaX
  exact uuid_any v.b
 ·have e : dtF flex ver (.mk .text a b 0 0 df of sub) v = if za1 0 ver v then .nstr none else .nstr (some (v.b.take zbu)) := by unfold dtF; dsimp only; rw [if_neg (by decide)]
  rw [e]
  have e2 : sUsual (.mk .text a b 0 0 df of sub) v = v.nil := by unfold sUsual; dsimp only; rw [if_pos (by decide)]
  have e3 : za1 0 ver v = v.nil := by unfold za1; simp; intro _; exact hv
  rw [e2, e3]
  cases v.nil <;> rfl
 ·obtain ⟨g, e⟩ : ∃ g : Tr → D, dtF flex ver (.mk .list a b nl 0 df of sub) v = .arr (za1 nl ver v) ((if za1 nl ver v then [] else v.l.take zbu).map g) := ⟨_, by unfold dtF; rfl⟩
  rw [e]
  have e3 : za1 nl ver v = false := by unfold za1; simp; intro _ h2; omega
  have e2 : sUsual (.mk .list a b nl 0 df of sub) v = v.l.isEmpty := by unfold sUsual; rfl
  rw [e2, e3]
  unfold zaX
  simp only [Bool.false_eq_true, if_false]
  cases v.l with
  | nil => rfl
  | cons x r => simp [zbu]
theorem known_same {flex : Bool} {ver : Int} (hv : 0 ≤ ver) {v : Tr} : ∀ {fs : List Fld} (i : Nat), (∀ f ∈ fs, tagTF f = true) →
  (∀ k f, fs[k]? = some f → f.tag = 0 → sUsual f (v.th (i + k)) = false → zbq flex ver f (dtF flex ver f (v.th (i + k))) = sF flex ver f (v.th (i + k)) ∧ (sF flex ver f (v.th (i + k))).length < 4294967296) → zaH flex ver fs (dtL flex ver fs v i) = sT flex ver fs 0 v i
 | [], i, _, _ => by unfold dtL zaH sT; rfl
 | f :: r, i, ht, h => by
  have ih := known_same hv (v := v) (fs := r) (i + 1) (fun g hg => ht g (List.mem_cons_of_mem _ hg)) fun k g hg h1 h2 => by
   have e : i + 1 + k = i + (k + 1) := by omega
   rw [e] at h2 ⊢
   exact h (k + 1) g (by simpa using hg) h1 h2
  have h01 : f.tag < 0 ∨ f.tag = 0 := by
   have := ht f List.mem_cons_self
   cases f
   unfold tagTF at this
   simp only [Bool.and_eq_true, Bool.or_eq_true, decide_eq_true_eq] at this
   rcases this with h | h
   ·exact .inl h
   ·exact .inr h.1
  unfold dtL
  rw [zaH]
  unfold sT
  rw [ih]
  dsimp only
  rcases h01 with h0 | h0
  ·rw [if_neg (by omega), if_neg (by simp; omega)]
  ·have hu := unusual_same (flex := flex) hv (f := f) (v := v.th i) (ht f List.mem_cons_self) h0
   cases hs : sUsual f (v.th i) with
   | true =>
    rw [hs] at hu
    rw [if_neg (by rw [hu]; simp), if_neg (by simp)]
   | false =>
    rw [hs] at hu
    obtain ⟨e1, e2⟩ := h 0 f rfl h0 (by rw [Nat.add_zero]; exact hs)
    rw [Nat.add_zero] at e1 e2
    rw [if_pos ⟨by omega, by rw [hu]; rfl⟩, if_pos (by simp [h0]), e1, Nat.mod_eq_of_lt e2, h0]
    rfl
theorem dpart_same {flex : Bool} {ver : Int} (hv : 0 ≤ ver) {fs : List Fld} {v : Tr} (ht : tagT fs = true) (hk : keyV v) (h : encL flex ver fs (dtL flex ver fs v 0) = sL flex ver fs v 0)
  (hkn : flex = true → ∀ k f, fs[k]? = some f → f.tag = 0 → sUsual f (v.th k) = false → zbq flex ver f (dtF flex ver f (v.th k)) = sF flex ver f (v.th k) ∧ (sF flex ver f (v.th k)).length < 4294967296) :
  partE flex ver fs (dtL flex ver fs v 0) (dtT flex fs v.t) = sPart flex ver fs v := by
 unfold partE sPart
 rw [h, sum_known (tag01 ht)]
 cases flex with
 | false => rfl
 | true =>
  have ht' := ht
  unfold tagT at ht'
  simp only [Bool.and_eq_true, List.all_eq_true, decide_eq_true_eq] at ht'
  have e := known_same hv (flex := true) (v := v) (fs := fs) 0 ht'.2 fun k f hf h0 hs => by
   rw [Nat.zero_add] at hs ⊢
   exact hkn rfl k f hf h0 hs
  rw [if_pos rfl, if_pos rfl, e, tags_same (by have := sT_cnt (flex := true) (ver := ver) fs v 0; omega) hk.parts.1]
theorem small_sF {flex : Bool} {ver : Int} {f : Fld} {v : Tr} (h : tagNF f = true) (h0 : f.tag = 0) : (sF flex ver f v).length < 4294967296 := by
 cases f with
 | mk k a b nl tag df of sub =>
 unfold tagNF at h
 have ht' : tag = 0 := h0
 subst ht'
 simp only [Bool.and_eq_true, Bool.or_eq_true, decide_eq_true_eq] at h
 rcases h with h | ⟨_, ⟨rfl, h⟩ | ⟨rfl, rfl⟩⟩
 ·omega
 ·rw [sF_eq]
  show ((v.b ++ List.replicate 16 0).take 16).length < _
  rw [List.length_take]; omega
 ·rw [sF_eq]
  show (sCount flex (za1 0 ver v) (if za1 0 ver v then [] else v.b.take zbu).length 2 ++ (if za1 0 ver v then [] else v.b.take zbu)).length < _
  have h3 : (if za1 0 ver v then [] else v.b.take zbu).length ≤ 32767 := by
   split
   ·simp
   ·exact dtake_most _
  have h4 : (sCount flex (za1 0 ver v) (if za1 0 ver v then [] else v.b.take zbu).length 2).length ≤ 5 := by
   unfold sCount
   split
   ·simp
   ·split
    ·exact uvarAux_len5 _
    ·split <;> (rw [be_len]; omega)
  rw [List.length_append]; omega
def dtE (flex : Bool) (ver : Int) (of : K) (sub : List Fld) (x : Tr) : D := match of with
 | .struct => .struct (dtL flex ver sub x 0) (dtT flex sub x.t)
 | k => dtK k x
theorem dtF_list (flex : Bool) (ver : Int) (a b nl tag df : Int) (of : K) (sub : List Fld) (v : Tr) : dtF flex ver (.mk .list a b nl tag df of sub) v = .arr (za1 nl ver v) ((if za1 nl ver v then [] else v.l.take zbu).map (dtE flex ver of sub)) := by
 unfold dtF
 dsimp only
 congr 2
 funext x
 unfold dtE
 cases of <;> rfl
theorem dtE_enc {flex : Bool} {ver : Int} {of : K} {sub : List Fld} {x : Tr} (h2 : of ≠ .list) (h : of = .struct → partE flex ver sub (dtL flex ver sub x 0) (dtT flex sub x.t) = sPart flex ver sub x) :
  elE flex ver of sub (dtE flex ver of sub x) = sVal of sub flex false ver x := by
 unfold elE dtE sVal
 by_cases hs : of = .struct
 ·subst hs
  exact h rfl
 ·have := dtK_enc of flex x hs h2
  cases of <;> first | exact absurd rfl hs | exact this
mutual
theorem dtF_ok {flex : Bool} {ver : Int} : ∀ {f : Fld} {v : Tr}, plnF f = true → keyV v → okFD flex f (dtF flex ver f v)
 | .mk k a b nl tag df of sub, v, hp, hk => by
  unfold plnF at hp
  simp only [Bool.and_eq_true, decide_eq_true_eq, Bool.or_eq_true] at hp
  obtain ⟨⟨p2, p3⟩, p4, p5⟩ := hp
  have part : ∀ x : Tr, keyV x → ∃ s : S, D.struct (dtL flex ver sub x 0) (dtT flex sub x.t) = s.d ∧ okLD flex sub s.ds ∧ okT flex sub s.tags := fun x hx =>
   ⟨⟨_, _⟩, rfl, dtL_ok p4 hx 0, dtT_okT (tag01 (tagN_T p5)) hx.parts.1⟩
  cases k with
  | list =>
   rw [dtF_list]
   unfold okFD
   dsimp only
   have hof : of ≠ .list := by rcases p3 with h | h; exact absurd rfl h; exact h
   refine ⟨?_, fun h => by rw [h]; rfl, fun x hx => ?_⟩
   ·rw [List.length_map]
    split
    ·simp
    ·simp only [List.length_take, zbu]; omega
   ·obtain ⟨y, hy, rfl⟩ := List.mem_map.1 hx
    have hy' : keyV y := by
     split at hy
     ·cases hy
     ·exact hk.parts.2.mem y (List.mem_of_mem_take hy)
    by_cases hs : of = .struct
    ·subst hs
     exact part y hy'
    ·have := dtK_ok of y hs hof
     unfold dtE
     cases of <;> first | exact absurd rfl hs | exact this
  | struct =>
   unfold okFD dtF
   dsimp only
   by_cases h : nl < 0
   ·rw [if_pos h, if_pos h]; exact part v hk
   ·rw [if_neg h, if_neg h]
    by_cases hn : za1 nl ver v = true
    ·rw [if_pos hn]; trivial
    ·rw [if_neg hn]; exact part v hk
  | text =>
   unfold okFD dtF
   dsimp only
   by_cases h : nl < 0
   ·rw [if_pos h, if_pos h]; exact dtake_most v.b
   ·rw [if_neg h, if_neg h]
    by_cases hn : za1 nl ver v = true
    ·rw [if_pos hn]; trivial
    ·rw [if_neg hn]; exact dtake_most v.b
  | _ =>
   unfold okFD dtF
   first | exact dtK_ok .bool v (by decide) (by decide) | exact dtK_ok .i8 v (by decide) (by decide) | exact dtK_ok .i16 v (by decide) (by decide) | exact dtK_ok .i32 v (by decide) (by decide) | exact dtK_ok .i64 v (by decide) (by decide) | exact dtK_ok .u16 v (by decide) (by decide) | exact dtK_ok .f64 v (by decide) (by decide) | exact dtK_ok .uuid v (by decide) (by decide) | exact dtK_ok .bytes v (by decide) (by decide)
theorem dtL_ok {flex : Bool} {ver : Int} : ∀ {fs : List Fld} {v : Tr}, plnL fs = true → keyV v → ∀ i, okLD flex fs (dtL flex ver fs v i)
 | [], v, _, _, i => by unfold okLD dtL; rfl
 | f :: r, v, hp, hk, i => by
  unfold plnL at hp
  simp only [Bool.and_eq_true] at hp
  unfold okLD dtL
  exact ⟨_, _, rfl, dtF_ok hp.1 (hk.th i), dtL_ok hp.2 hk (i + 1)⟩
end
mutual
theorem dtF_enc {flex : Bool} {ver : Int} (hv : 0 ≤ ver) : ∀ {f : Fld} {v : Tr}, plnF f = true → keyV v → zbq flex ver f (dtF flex ver f v) = sF flex ver f v
 | .mk k a b nl tag df of sub, v, hp, hk => by
  unfold plnF at hp
  simp only [Bool.and_eq_true, decide_eq_true_eq, Bool.or_eq_true] at hp
  obtain ⟨⟨p2, p3⟩, p4, p5⟩ := hp
  have part : ∀ x : Tr, keyV x → partE flex ver sub (dtL flex ver sub x 0) (dtT flex sub x.t) = sPart flex ver sub x := fun x hx => dpart_same hv (tagN_T p5) hx (dtL_enc hv p4 hx 0) fun _ k f hf h0 _ => by
   have hn : tagNF f = true := by
    unfold tagN at p5
    simp only [Bool.and_eq_true, List.all_eq_true] at p5
    exact p5.2 f (List.mem_of_getElem? hf)
   exact ⟨dtL_encF hv p4 hx k hf, small_sF hn h0⟩
  have lm := dtake_most v.b
  rw [sF_eq]
  cases k with
  | list =>
   have hof : of ≠ .list := by rcases p3 with h | h; exact absurd rfl h; exact h
   rw [dtF_list, encF_listE]
   dsimp only
   have hl : ((if za1 nl ver v then [] else v.l.take zbu).map (dtE flex ver of sub)).length = (if za1 nl ver v then [] else v.l.take zbu).length := by rw [List.length_map]
   have hlm : (if za1 nl ver v then [] else v.l.take zbu).length ≤ 32767 := by
    split
    ·simp
    ·simp only [List.length_take, zbu]; omega
   rw [hl, List.flatMap_map]
   congr 1
   ·generalize hn : (if za1 nl ver v then [] else v.l.take zbu) = l at hlm ⊢
    unfold encNLen encLen sCount
    by_cases hnul : za1 nl ver v = true
    ·have hc : ¬ (nl < 0 ∨ ver < nl) := by
      unfold za1 at hnul
      simp only [Bool.and_eq_true, decide_eq_true_eq] at hnul
      omega
     rw [if_neg hc, hnul]
     cases flex <;> rfl
    ·have hnf : za1 nl ver v = false := by simpa using hnul
     rw [hnf]
     simp only [Bool.and_false, Bool.false_eq_true, if_false]
     have e : (1 + l.length) % 4294967296 = l.length + 1 := by rw [Nat.mod_eq_of_lt (by omega), Nat.add_comm]
     rw [e]
     split <;> rfl
   ·refine dflatMap_cg fun x hx => ?_
    have hx' : keyV x := by
     split at hx
     ·cases hx
     ·exact hk.parts.2.mem x (List.mem_of_mem_take hx)
    exact dtE_enc hof fun _ => part x hx'
  | struct =>
   dsimp only
   by_cases h : nl < 0
   ·rw [encF_struct _ _ _ _ _ _ _ _ _ _ h, if_neg (by omega)]
    have e : dtF flex ver (.mk .struct a b nl tag df of sub) v = .struct (dtL flex ver sub v 0) (dtT flex sub v.t) := by unfold dtF; dsimp only; rw [if_pos h]
    rw [e]
    exact part v hk
   ·rw [if_pos (by omega)]
    by_cases hnul : za1 nl ver v = true
    ·have e : dtF flex ver (.mk .struct a b nl tag df of sub) v = .pnil := by unfold dtF; dsimp only; rw [if_neg h, if_pos hnul]
     rw [e, encF_pnil _ _ _ _ _ _ _ _ _ h, if_pos hnul]
     exact be_m1.symm
    ·have e : dtF flex ver (.mk .struct a b nl tag df of sub) v = .ptr (.struct (dtL flex ver sub v 0) (dtT flex sub v.t)) := by unfold dtF; dsimp only; rw [if_neg h, if_neg hnul]
     rw [e, encF_ptr _ _ _ _ _ _ _ _ _ _ h, if_neg hnul, be_p1]
     show 1 :: partE flex ver sub _ _ = [1] ++ _
     rw [part v hk]; rfl
  | text =>
   dsimp only
   by_cases h : nl < 0
   ·have hnf : za1 nl ver v = false := by unfold za1; simp; intro _ h2; omega
    have e : dtF flex ver (.mk .text a b nl tag df of sub) v = dtK .text v := by unfold dtF; dsimp only; rw [if_pos h]; rfl
    rw [e, hnf]
    have e2 : zbq flex ver (.mk .text a b nl tag df of sub) (dtK .text v) = encK .text flex (dtK .text v) := by unfold zbq; dsimp only; rw [if_pos h]
    rw [e2]
    exact dtK_enc .text flex v (by decide) (by decide)
   ·by_cases hnul : za1 nl ver v = true
    ·have hv : ¬ ver < nl := by
      unfold za1 at hnul
      simp only [Bool.and_eq_true, decide_eq_true_eq] at hnul
      omega
     have e : dtF flex ver (.mk .text a b nl tag df of sub) v = .nstr none := by unfold dtF; dsimp only; rw [if_neg h, if_pos hnul]
     rw [e, hnul]
     unfold zbq
     dsimp only
     rw [if_neg h, if_neg hv]
     cases flex <;> rfl
    ·have hnf : za1 nl ver v = false := by simpa using hnul
     have e : dtF flex ver (.mk .text a b nl tag df of sub) v = .nstr (some (v.b.take zbu)) := by unfold dtF; dsimp only; rw [if_neg h, if_neg hnul]
     have e3 := dtK_enc .text flex v (by decide) (by decide)
     rw [e, hnf]
     unfold zbq
     dsimp only
     rw [if_neg h]
     have e4 : encStr flex (v.b.take zbu) = sVal .text sub flex false ver v := e3
     split
     ·exact e4
     ·exact e4
  | _ =>
   have hnl : nl < 0 := by
    rcases p2 with ((h | h) | h) | h
    ·cases h
    ·cases h
    ·cases h
    ·exact h
   have hnf : za1 nl ver v = false := by unfold za1; simp; intro _ h2; omega
   rw [hnf]
   first | exact dtK_enc .bool flex v (by decide) (by decide) | exact dtK_enc .i8 flex v (by decide) (by decide) | exact dtK_enc .i16 flex v (by decide) (by decide) | exact dtK_enc .i32 flex v (by decide) (by decide) | exact dtK_enc .i64 flex v (by decide) (by decide) | exact dtK_enc .u16 flex v (by decide) (by decide) | exact dtK_enc .f64 flex v (by decide) (by decide) | exact dtK_enc .uuid flex v (by decide) (by decide) | exact dtK_enc .bytes flex v (by decide) (by decide)
theorem dtL_enc {flex : Bool} {ver : Int} (hv : 0 ≤ ver) : ∀ {fs : List Fld} {v : Tr}, plnL fs = true → keyV v → ∀ i, encL flex ver fs (dtL flex ver fs v i) = sL flex ver fs v i
 | [], v, _, _, i => by unfold encL sL; rfl
 | f :: r, v, hp, hk, i => by
  unfold plnL at hp
  simp only [Bool.and_eq_true] at hp
  unfold dtL encL sL
  rw [dtF_enc hv hp.1 (hk.th i), dtL_enc hv hp.2 hk (i + 1)]
theorem dtL_encF {flex : Bool} {ver : Int} (hv : 0 ≤ ver) : ∀ {fs : List Fld} {v : Tr}, plnL fs = true → keyV v → ∀ (k : Nat) {f : Fld} {j : Nat}, fs[k]? = some f → zbq flex ver f (dtF flex ver f (v.th j)) = sF flex ver f (v.th j)
 | [], _, _, _, k, f, j, h => by simp at h
 | g :: r, v, hp, hk, 0, f, j, h => by
  unfold plnL at hp
  simp only [Bool.and_eq_true] at hp
  simp at h; subst h
  exact dtF_enc hv hp.1 (hk.th j)
 | g :: r, v, hp, hk, k + 1, f, j, h => by
  unfold plnL at hp
  simp only [Bool.and_eq_true] at hp
  exact dtL_encF hv hp.2 hk k (by simpa using h)
end
theorem tree_law {flex : Bool} {ver : Int} {fs : List Fld} {v : Tr} (hg : goodL flex ver fs = true) (hp : plainL fs = true) (hk : keyV v) (hl : (sPart flex ver fs v).length ≤ 2147483648) (hv : 0 ≤ ver := by omega) :
  ∃ s, decPart flex ver fs (sPart flex ver fs v) = some (s, []) ∧ encPart flex ver fs s = sPart flex ver fs v := by
 unfold plainL at hp
 rw [Bool.and_eq_true] at hp
 obtain ⟨hp, ht⟩ := hp
 have e : encPart flex ver fs ⟨dtL flex ver fs v 0, dtT flex fs v.t⟩ = sPart flex ver fs v := dpart_same hv ht hk (dtL_enc hv hp hk 0) fun hx k f hf h0 hs => by
  refine ⟨dtL_encF hv hp hk k hf, ?_⟩
  have h1 := sT_ge (flex := flex) (ver := ver) fs v 0 k f hf h0 (by rw [Nat.zero_add]; exact hs)
  rw [Nat.zero_add] at h1
  have h2 : (sT flex ver fs 0 v 0).2.length ≤ (sPart flex ver fs v).length := by
   unfold sPart
   rw [sum_known (tag01 ht), hx, if_pos rfl]
   unfold sTags
   simp only [List.length_append]; omega
  omega
 have ok := dtL_ok (flex := flex) (ver := ver) hp hk 0
 have okt : okT flex fs (dtT flex fs v.t) := dtT_okT (tag01 ht) hk.parts.1
 have h1 := decPart_enc flex ver fs ⟨dtL flex ver fs v 0, dtT flex fs v.t⟩ [] hg ok okt (by rw [e]; exact hl)
 have h2 := encPart_same flex ver fs ⟨dtL flex ver fs v 0, dtT flex fs v.t⟩ hg ok okt
 rw [List.append_nil, e] at h1
 rw [e] at h2
 exact ⟨_, h1, h2⟩
mutual
def za8 : Tr → Nat
 | .mk _ b _ l t => b.length + zbt l + zbk t + 5
def zbt : List Tr → Nat
 | [] => 0
 | v :: r => za8 v + zbt r
def zbk : za5 → Nat
 | [] => 0
 | x :: r => x.2.length + 2 + zbk r
end
theorem trBulk_pos (v : Tr) : 5 ≤ za8 v := by cases v; unfold za8; omega
theorem trBulk_parts (v : Tr) : za8 v = v.b.length + zbt v.l + zbk v.t + 5 := by cases v; unfold za8; rfl
theorem trBulk_mem : ∀ {l : List Tr} {x : Tr}, x ∈ l → za8 x ≤ zbt l
 | [], _, h => by cases h
 | y :: r, x, h => by
  unfold zbt
  rcases List.mem_cons.1 h with rfl | h
  ·omega
  ·have := trBulk_mem h; omega
theorem trBulk_th (v : Tr) (i : Nat) : za8 (v.th i) ≤ za8 v := by
 unfold Tr.th
 cases h : v.l[i]? with
 | none =>
  have h5 := trBulk_pos v
  have : za8 (Option.getD none Tr.zero) = 5 := by simp [Tr.zero, za8, zbt, zbk]
  omega
 | some x =>
  have h1 := trBulk_mem (List.mem_of_getElem? h)
  have h2 := trBulk_parts v
  show za8 x ≤ _
  omega
theorem trBulkL_take : ∀ (l : List Tr) (n : Nat), zbt (l.take n) ≤ zbt l
 | [], n => by simp
 | x :: r, 0 => by simp [zbt]
 | x :: r, n + 1 => by
  rw [List.take_succ_cons]
  unfold zbt
  have := trBulkL_take r n; omega
theorem tgBulk_take : ∀ (l : za5) (n : Nat), zbk (l.take n) ≤ zbk l
 | [], n => by simp
 | x :: r, 0 => by simp [zbk]
 | x :: r, n + 1 => by
  rw [List.take_succ_cons]
  unfold zbk
  have := tgBulk_take r n; omega
theorem tgBulk_ins (x : Nat × Bs) : ∀ l : za5, zbk (unkIns x l) ≤ zbk l + (x.2.length + 2)
 | [] => by simp [unkIns, zbk]
 | y :: r => by
  unfold unkIns
  have := tgBulk_ins x r
  split
  ·unfold zbk; omega
  ·split
   ·omega
   ·simp only [zbk]; omega
theorem tgBulk_from (k : Nat) : ∀ (t acc : za5), zbk (zbm k t acc) ≤ zbk acc + zbk t
 | [], acc => by simp [zbm, zbk]
 | x :: r, acc => by
  have e : zbk (x :: r) = x.2.length + 2 + zbk r := by rw [zbk]
  unfold zbm
  have h1 := tgBulk_from k r acc
  have h2 := tgBulk_from k r (unkIns x acc)
  have h3 := tgBulk_ins x acc
  split <;> omega
theorem tgBulk_unknown (fs : List Fld) (t : za5) : zbk (zba fs t) ≤ zbk t := by
 have h1 := tgBulk_from (zbn fs 0) (t.take zbu) []
 have h2 := tgBulk_take t zbu
 have h0 : zbk [] = 0 := by simp [zbk]
 unfold zba; omega
theorem uvA_le : ∀ (k n : Nat), (za2 k n).length ≤ k + 1
 | 0, n => by simp [za2]
 | k + 1, n => by
  unfold za2
  have := uvA_le k (n / 128)
  split
  ·simp
  ·simp; omega
theorem uvr_le (n : Nat) : (zbo n).length ≤ 5 := uvA_le 4 n
theorem unkEach_le : ∀ t : za5, (sUnkEach t).length ≤ 5 * zbk t
 | [] => by simp [sUnkEach, zbk]
 | x :: r => by
  have ih := unkEach_le r
  have e : sUnkEach (x :: r) = (zbo x.1 ++ (zbo (x.2.take zbu).length ++ x.2.take zbu)) ++ sUnkEach r := rfl
  have h1 := uvr_le x.1
  have h2 := uvr_le (x.2.take zbu).length
  have h3 : (x.2.take zbu).length ≤ x.2.length := by rw [List.length_take]; omega
  rw [e]
  unfold zbk
  simp only [List.length_append]
  omega
theorem sTags_le (fs : List Fld) (t : za5) : (sTags (0, []) (zba fs t)).length ≤ 5 + 5 * zbk t := by
 unfold sTags
 have h1 := uvr_le (0 + (zba fs t).length)
 have h2 := unkEach_le (zba fs t)
 have h3 := tgBulk_unknown fs t
 simp only [List.length_append, List.length_nil]
 omega
theorem sCount_le (flex nul : Bool) (n w : Nat) (hw : w ≤ 4) : (sCount flex nul n w).length ≤ 5 := by
 unfold sCount
 have h1 := uvr_le (n + 1)
 have h2 := be_len w
 split
 ·simp
 ·split
  ·exact h1
  ·split <;> (rw [be_len]; omega)
theorem sNo_le (k : K) (flex nul : Bool) (v : Tr) : (sNoStruct k flex nul v).length ≤ 4 * za8 v := by
 have hp := trBulk_pos v
 have hb := trBulk_parts v
 have h1 : ∀ w, w ≤ 8 → (be w v.n).length ≤ 4 * za8 v := fun w hw => by rw [be_len]; omega
 have h2 : ∀ w, w ≤ 4 → (sCount flex nul (if nul then [] else v.b.take zbu).length w ++ (if nul then [] else v.b.take zbu)).length ≤ 4 * za8 v := fun w hw => by
  have := sCount_le flex nul (if nul then [] else v.b.take zbu).length w hw
  have h3 : (if nul then [] else v.b.take zbu).length ≤ v.b.length := by
   split
   ·simp
   ·rw [List.length_take]; omega
  rw [List.length_append]; omega
 cases k with
 | bool => show 1 ≤ _; omega
 | uuid => show ((v.b ++ List.replicate 16 0).take 16).length ≤ _; rw [List.length_take]; omega
 | text => exact h2 2 (by decide)
 | bytes => exact h2 4 (by decide)
 | struct => exact Nat.zero_le _
 | _ => exact h1 _ (by decide)
mutual
def kF : Fld → Nat
 | .mk _ _ _ _ _ _ _ sub => kL sub + 20
def kL : List Fld → Nat
 | [] => 0
 | f :: r => kF f + kL r
end
theorem uvr0 : (zbo 0).length = 1 := by decide
theorem tail_le {flex : Bool} {ver : Int} {fs : List Fld} {v : Tr} (ht : tagT fs = true) : (if flex then sTags (sumTags ((List.range (zbn fs 0)).map fun g => sT flex ver fs g v 0)) (zba fs v.t) else []).length ≤ 6 * za8 v + (sT flex ver fs 0 v 0).2.length := by
 have hb := trBulk_parts v
 split
 ·rename_i hx
  rw [sum_known (tag01 ht)]
  have h2 := sTags_le fs v.t
  unfold sTags at h2 ⊢
  have h1 := uvr_le ((sT flex ver fs 0 v 0).1 + (zba fs v.t).length)
  have h3 := unkEach_le (zba fs v.t)
  have h4 := tgBulk_unknown fs v.t
  simp only [List.length_append] at h2 ⊢
  omega
 ·simp
theorem lw_flat_le {f : Tr → Bs} {K : Nat} : ∀ {l : List Tr}, (∀ x ∈ l, (f x).length ≤ K * za8 x) → (l.flatMap f).length ≤ K * zbt l
 | [], _ => by simp
 | x :: r, h => by
  have h1 := h x List.mem_cons_self
  have h2 := lw_flat_le (f := f) (K := K) fun y hy => h y (List.mem_cons_of_mem _ hy)
  rw [List.flatMap_cons, List.length_append]
  unfold zbt
  rw [Nat.mul_add]; omega
mutual
theorem sF_le {flex : Bool} {ver : Int} : ∀ {f : Fld} {v : Tr}, plnF f = true → (sF flex ver f v).length + 6 ≤ kF f * za8 v
 | .mk k a b nl tag df of sub, v, hp => by
  unfold plnF at hp
  simp only [Bool.and_eq_true, decide_eq_true_eq, Bool.or_eq_true] at hp
  obtain ⟨⟨p2, p3⟩, p4, p5⟩ := hp
  have hb := trBulk_parts v
  have h5 := trBulk_pos v
  have part : ∀ x : Tr, (sPart flex ver sub x).length ≤ (kL sub + 6) * za8 x := fun x => by
   unfold sPart
   have h1 := sL_le (flex := flex) (ver := ver) p4 (v := x) 0
   have h2 := tail_le (flex := flex) (ver := ver) (v := x) (tagN_T p5)
   rw [List.length_append, Nat.add_mul]; omega
  rw [sF_eq]
  unfold kF
  cases k with
  | list =>
   have hof : of ≠ .list := by rcases p3 with h | h; exact absurd rfl h; exact h
   dsimp only
   rw [List.length_append]
   have h1 := sCount_le flex (za1 nl ver v) (if za1 nl ver v then [] else v.l.take zbu).length 4 (by decide)
   have h2 : ((if za1 nl ver v then [] else v.l.take zbu).flatMap fun x => sVal of sub flex false ver x).length ≤ (kL sub + 6) * zbt (if za1 nl ver v then [] else v.l.take zbu) := lw_flat_le fun x _ => by
    unfold sVal
    by_cases hs : of = .struct
    ·subst hs; exact part x
    ·have h := sNo_le of flex false x
     have h3 : (kL sub + 6) * za8 x = kL sub * za8 x + 6 * za8 x := Nat.add_mul _ _ _
     cases of <;> first | exact absurd rfl hs | (dsimp only; omega)
   have h3 : zbt (if za1 nl ver v then [] else v.l.take zbu) ≤ za8 v := by
    have := trBulkL_take v.l zbu
    split
    ·simp [zbt]
    ·omega
   have h4 := Nat.mul_le_mul_left (kL sub + 6) h3
   have e1 : (kL sub + 6) * za8 v = kL sub * za8 v + 6 * za8 v := Nat.add_mul _ _ _
   have e2 : (kL sub + 20) * za8 v = kL sub * za8 v + 20 * za8 v := Nat.add_mul _ _ _
   omega
  | struct =>
   have h1 := part v
   rw [Nat.add_mul] at h1 ⊢
   dsimp only
   split
   ·split
    ·rw [be_len]; omega
    ·rw [List.length_append, be_len]; omega
   ·omega
  | _ =>
   rw [Nat.add_mul]
   first | (refine Nat.le_trans (Nat.add_le_add_right (sNo_le .bool flex (za1 nl ver v) v) 6) ?_; omega) | (refine Nat.le_trans (Nat.add_le_add_right (sNo_le .i8 flex (za1 nl ver v) v) 6) ?_; omega) | (refine Nat.le_trans (Nat.add_le_add_right (sNo_le .i16 flex (za1 nl ver v) v) 6) ?_; omega) | (refine Nat.le_trans (Nat.add_le_add_right (sNo_le .i32 flex (za1 nl ver v) v) 6) ?_; omega) | (refine Nat.le_trans (Nat.add_le_add_right (sNo_le .i64 flex (za1 nl ver v) v) 6) ?_; omega) | (refine Nat.le_trans (Nat.add_le_add_right (sNo_le .u16 flex (za1 nl ver v) v) 6) ?_; omega) | (refine Nat.le_trans (Nat.add_le_add_right (sNo_le .f64 flex (za1 nl ver v) v) 6) ?_; omega) | (refine Nat.le_trans (Nat.add_le_add_right (sNo_le .uuid flex (za1 nl ver v) v) 6) ?_; omega) | (refine Nat.le_trans (Nat.add_le_add_right (sNo_le .bytes flex (za1 nl ver v) v) 6) ?_; omega) | (refine Nat.le_trans (Nat.add_le_add_right (sNo_le .text flex (za1 nl ver v) v) 6) ?_; omega)
theorem sL_le {flex : Bool} {ver : Int} : ∀ {fs : List Fld} {v : Tr}, plnL fs = true → ∀ i, (sL flex ver fs v i).length + (sT flex ver fs 0 v i).2.length ≤ kL fs * za8 v
 | [], v, _, i => by unfold sL sT; simp
 | f :: r, v, hp, i => by
  unfold plnL at hp
  simp only [Bool.and_eq_true] at hp
  have h1 := sF_le (flex := flex) (ver := ver) (v := v.th i) hp.1
  have h2 := sL_le (flex := flex) (ver := ver) (v := v) hp.2 (i + 1)
  have h3 := Nat.mul_le_mul_left (kF f) (trBulk_th v i)
  have h4 := uvr_le (sF flex ver f (v.th i)).length
  have h0 := uvr0
  unfold sL kL sT
  dsimp only
  rw [List.length_append, Nat.add_mul]
  by_cases ht : f.tag < 0
  ·have e : (decide (f.tag = ((0 : Nat) : Int)) && !sUsual f (v.th i)) = false := by
    have : ¬ f.tag = 0 := by omega
    simp [this]
   simp only [e, Bool.false_eq_true, if_false]
   split <;> (try simp only [List.length_nil]) <;> omega
  ·have e : (decide (f.tag < 0) && f.has ver) = false := by simp [ht]
   simp only [e, Bool.false_eq_true, if_false, List.length_nil]
   split
   ·simp only [List.length_append]; omega
   ·omega
end
theorem sPart_le {flex : Bool} {ver : Int} {fs : List Fld} {v : Tr} (hp : plainL fs = true) : (sPart flex ver fs v).length ≤ (kL fs + 6) * za8 v := by
 unfold plainL at hp
 rw [Bool.and_eq_true] at hp
 unfold sPart
 have h1 := sL_le (flex := flex) (ver := ver) hp.1 (v := v) 0
 have h2 := tail_le (flex := flex) (ver := ver) (v := v) hp.2
 rw [List.length_append, Nat.add_mul]; omega
end Go.Proofs.YtnjjfpgpookjlaaGreatDoor
