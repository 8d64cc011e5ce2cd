import Derived.Test.YtbbocmkcciemdaaZA
/-
What the proofs of the laws rest on, part ZL.
-/
namespace Go.Proofs.Ytbbocmkcciemdaa
set_option linter.all false
theorem take?_app {k : Nat} {l r : Bs} (h : l.length = k) : take? k (l ++ r) = some (l, r) := by
  unfold take?
  rw [if_pos (by simp; omega), List.take_left' h, List.drop_left' h]
theorem u8_lt {n : Nat} (h : n < 256) : (UInt8.ofNat n).toNat = n := by simp only [UInt8.toNat_ofNat']; omega
theorem rUvar_uvar (n : Nat) (h : n < 4294967296) (r : Bs) : rUvar (uvar n ++ r) = some (n, r) := by
  have h2 : ∀ m : Nat, m % 128 + 128 < 256 := by omega
  unfold uvar
  rw [uvarAux]
  by_cases h0 : n < 128
  · rw [if_pos h0]
    simp only [List.cons_append, List.nil_append, rUvar, u8_lt (by omega : n < 256)]
    rw [if_pos h0]
  rw [if_neg h0, uvarAux]
  by_cases h1 : n / 128 < 128
  · rw [if_pos h1]
    simp only [List.cons_append, List.nil_append, rUvar, u8_lt (h2 n), u8_lt (by omega : n / 128 < 256)]
    rw [if_neg (by omega), if_pos h1]
    simp only [Option.some.injEq, Prod.mk.injEq, and_true]; omega
  rw [if_neg h1, uvarAux]
  by_cases h3 : n / 128 / 128 < 128
  · rw [if_pos h3]
    simp only [List.cons_append, List.nil_append, rUvar, u8_lt (h2 n), u8_lt (h2 (n / 128)), u8_lt (by omega : n / 128 / 128 < 256)]
    rw [if_neg (by omega), if_neg (by omega), if_pos h3]
    simp only [Option.some.injEq, Prod.mk.injEq, and_true]; omega
  rw [if_neg h3, uvarAux]
  by_cases h4 : n / 128 / 128 / 128 < 128
  · rw [if_pos h4]
    simp only [List.cons_append, List.nil_append, rUvar, u8_lt (h2 n), u8_lt (h2 (n / 128)), u8_lt (h2 (n / 128 / 128)), u8_lt (by omega : n / 128 / 128 / 128 < 256)]
    rw [if_neg (by omega), if_neg (by omega), if_neg (by omega), if_pos h4]
    simp only [Option.some.injEq, Prod.mk.injEq, and_true]; omega
  rw [if_neg h4, uvarAux]
  simp only [List.cons_append, List.nil_append, rUvar, u8_lt (h2 n), u8_lt (h2 (n / 128)), u8_lt (h2 (n / 128 / 128)), u8_lt (h2 (n / 128 / 128 / 128)), u8_lt (by omega : n / 128 / 128 / 128 / 128 < 256)]
  rw [if_neg (by omega), if_neg (by omega), if_neg (by omega), if_neg (by omega), if_pos (by omega)]
  simp only [Option.some.injEq, Prod.mk.injEq, and_true]; omega
theorem rSpan_app (l r : Bs) : rSpan (l.length : Int) (l ++ r) = some (l, r) := by
  unfold rSpan
  rw [if_pos (by omega), Int.toNat_natCast, take?_app rfl]
def TagsW (t : zat) : Prop := (∀ x ∈ t, x.1 < 4294967296 ∧ x.2.length ≤ 32767) ∧ (t.map (·.1)).Nodup ∧ t.length ≤ 32767
def Rising : zat → Prop
  | [] => True
  | x :: r => (∀ y ∈ r, x.1 < y.1) ∧ Rising r
theorem mem_tagIns (x : Nat × Bs) : ∀ (t : zat) (y : Nat × Bs), y ∈ tagIns x t ↔ y = x ∨ y ∈ t
  | [], y => by simp [tagIns]
  | z :: r, y => by
    unfold tagIns
    split
    · simp
    · rw [List.mem_cons, mem_tagIns x r y, List.mem_cons]
      constructor
      · rintro (h | h | h)
        · exact .inr (.inl h)
        · exact .inl h
        · exact .inr (.inr h)
      · rintro (h | h | h)
        · exact .inr (.inl h)
        · exact .inl h
        · exact .inr (.inr h)
theorem mem_tagSort : ∀ (t : zat) (y : Nat × Bs), y ∈ zah t ↔ y ∈ t
  | [], y => Iff.rfl
  | x :: r, y => by
    unfold zah
    rw [mem_tagIns, mem_tagSort r y, List.mem_cons]
theorem tagIns_len (x : Nat × Bs) : ∀ t : zat, (tagIns x t).length = t.length + 1
  | [] => rfl
  | z :: r => by
    unfold tagIns
    split
    · rfl
    · simp [tagIns_len x r]
theorem tagSort_len : ∀ t : zat, (zah t).length = t.length
  | [] => rfl
  | x :: r => by unfold zah; rw [tagIns_len, tagSort_len r]; rfl
theorem tagIns_rising (x : Nat × Bs) : ∀ t : zat, Rising t → (∀ y ∈ t, y.1 ≠ x.1) → Rising (tagIns x t)
  | [], _, _ => by simp [tagIns, Rising]
  | z :: r, h, hn => by
    unfold tagIns
    have hz := hn z (by simp)
    split
    · rename_i hx
      refine ⟨fun y hy => ?_, h⟩
      rcases List.mem_cons.1 hy with rfl | hy
      · omega
      · have := h.1 y hy; omega
    · rename_i hx
      refine ⟨fun y hy => ?_, tagIns_rising x r h.2 fun y hy => hn y (by simp [hy])⟩
      rcases (mem_tagIns x r y).1 hy with rfl | hy
      · omega
      · exact h.1 y hy
theorem tagSort_rising : ∀ t : zat, (t.map (·.1)).Nodup → Rising (zah t)
  | [], _ => trivial
  | x :: r, h => by
    unfold zah
    rw [List.map_cons, List.nodup_cons] at h
    refine tagIns_rising x _ (tagSort_rising r h.2) fun y hy e => h.1 ?_
    rw [← e]
    exact List.mem_map_of_mem ((mem_tagSort r y).1 hy)
theorem tagSort_id : ∀ t : zat, Rising t → zah t = t
  | [], _ => rfl
  | x :: r, h => by
    unfold zah
    rw [tagSort_id r h.2]
    cases r with
    | nil => rfl
    | cons y r => unfold tagIns; rw [if_pos (Nat.le_of_lt (h.1 y (by simp)))]
theorem Rising.nodup : ∀ {t : zat}, Rising t → (t.map (·.1)).Nodup
  | [], _ => List.nodup_nil
  | x :: r, h => by
    rw [List.map_cons, List.nodup_cons]
    refine ⟨fun hm => ?_, h.2.nodup⟩
    obtain ⟨y, hy, e⟩ := List.mem_map.1 hm
    have := h.1 y hy
    omega
theorem TagsW.sort {t : zat} (h : TagsW t) : TagsW (zah t) :=
  ⟨fun x hx => h.1 x ((mem_tagSort t x).1 hx), (tagSort_rising t h.2.1).nodup, by rw [tagSort_len]; exact h.2.2⟩
theorem tagSet_new : ∀ (t : zat) (k : Nat) (v : Bs), (∀ y ∈ t, y.1 ≠ k) → tagSet t k v = t ++ [(k, v)]
  | [], _, _, _ => rfl
  | (j, u) :: r, k, v, h => by
    have hj : j ≠ k := h (j, u) (by simp)
    unfold tagSet
    rw [if_neg hj, tagSet_new r k v fun y hy => h y (by simp [hy])]; rfl
theorem rTag_enc (x : Nat × Bs) (r : Bs) (h1 : x.1 < 4294967296) (h2 : x.2.length ≤ 32767) : rTag (encTag x ++ r) = some (x, r) := by
  unfold rTag encTag
  rw [Nat.mod_eq_of_lt (by omega), List.append_assoc, rUvar_uvar _ h1]
  simp only [Option.bind_some]
  rw [List.append_assoc, rUvar_uvar _ (by omega)]
  simp only [Option.bind_some]
  rw [rSpan_app]
  rfl
theorem rTagsN_enc : ∀ (t acc : zat) (r : Bs), (∀ x ∈ t, x.1 < 4294967296 ∧ x.2.length ≤ 32767) → ((acc ++ t).map (·.1)).Nodup → rTagsN t.length acc (t.flatMap encTag ++ r) = some (acc ++ t, r)
  | [], acc, r, _, _ => by simp [rTagsN]
  | x :: t, acc, r, h, hn => by
    have hx := h x (by simp)
    simp only [List.length_cons, List.flatMap_cons, rTagsN]
    rw [List.append_assoc, rTag_enc x _ hx.1 hx.2]
    simp only [Option.bind_some]
    have hnew : ∀ y ∈ acc, y.1 ≠ x.1 := by
      intro y hy e
      rw [List.map_append, List.map_cons, List.nodup_append] at hn
      exact hn.2.2 y.1 (List.mem_map_of_mem hy) x.1 (by simp) e
    rw [tagSet_new acc x.1 x.2 hnew]
    have := rTagsN_enc t (acc ++ [x]) r (fun y hy => h y (by simp [hy])) (by rw [List.append_assoc]; exact hn)
    rw [List.append_assoc] at this
    exact this
end Go.Proofs.Ytbbocmkcciemdaa
