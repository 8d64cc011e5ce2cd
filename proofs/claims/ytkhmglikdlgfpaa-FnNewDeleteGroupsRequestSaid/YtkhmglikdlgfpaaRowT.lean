import Derived.Test.YtkhmglikdlgfpaaOps
/-
Rows of elements of any size that a call owns: appends to them. Generic over the program.
-/
namespace Go.Proofs.Ytkhmglikdlgfpaa
set_option linter.all false
open Go.RowKit

/-- What an append leaves of a row of elements of sz cells. -/
structure AppR (e : TypeId) (sz : Nat) (w : World) (base : Nat) (v : Value) (n : Nat) (xs : List Value) (v' : Value) (w' : World) : Prop where
  own : w'.ownsRow base e sz v' n xs
  chg : Chg (fun k => v.ownBlock = some k) w w'
  blk : v'.ownBlock = v.ownBlock ∨ ∃ k, v'.ownBlock = some k ∧ w.heap.size ≤ k

/-- A type of slices whose elements have sz cells and so many bytes. -/
def rowB (P : Program) (t e sz bytes : Nat) : Bool :=
  (match P.underlying t with | some (.slice x) => x == e | _ => false) &&
  (match P.info? e with | some i => i.size == sz && i.bytes == bytes && (match i.zero with | some z => z.cells.size == sz | none => false) | none => false)
theorem rowB_out {P : Program} {t e sz bytes : Nat} (h : rowB P t e sz bytes = true) : P.underlying t = some (.slice e) ∧ ∃ i z, P.info? e = some i ∧ i.zero = some z ∧ i.size = sz ∧ i.bytes = bytes ∧ z.cells.size = sz := by
  unfold rowB at h
  simp only [Bool.and_eq_true] at h
  obtain ⟨h1, h2⟩ := h
  constructor
  · split at h1
    · rename_i x hx; rw [hx]; simp at h1; rw [h1]
    · cases h1
  · split at h2
    · rename_i i hi
      simp only [Bool.and_eq_true, beq_iff_eq] at h2
      obtain ⟨⟨h3, h4⟩, h5⟩ := h2
      split at h5
      · rename_i z hz
        simp at h5
        exact ⟨i, z, hi, hz, h3, h4, h5⟩
      · cases h5
    · cases h2

theorem ownsRow_chg {e : TypeId} {sz : Nat} {w w' : World} {base : Nat} {v : Value} {n : Nat} {xs : List Value} {X : Nat → Prop} (h : w.ownsRow base e sz v n xs) (c : Chg X w w') (hx : ∀ k, v.ownBlock = some k → ¬ X k) : w'.ownsRow base e sz v n xs := by
  refine ⟨h.1, ?_⟩
  rcases h.2 with hn | ⟨g, cap, cur, rfl, hb, hg, rest⟩
  · exact .inl hn
  · exact .inr ⟨g, cap, cur, rfl, hb, (c.block g (Array.getElem?_eq_some_iff.1 hg).1 (hx g rfl)).trans hg, rest⟩
theorem ownsRow_mono {e : TypeId} {sz : Nat} {w : World} {base base' : Nat} {v : Value} {n : Nat} {xs : List Value} (h : w.ownsRow base e sz v n xs) (hb : base' ≤ base) : w.ownsRow base' e sz v n xs := by
  refine ⟨h.1, ?_⟩
  rcases h.2 with hn | ⟨g, cap, cur, rfl, hbg, rest⟩
  · exact .inl hn
  · exact .inr ⟨g, cap, cur, rfl, by omega, rest⟩
theorem ownsRow_slice {e : TypeId} {sz : Nat} {w : World} {base : Nat} {v : Value} {n : Nat} {xs : List Value} (h : w.ownsRow base e sz v n xs) : ∃ oa cap, v = .slice oa n cap ∧ n ≤ cap ∧
    (n = 0 ∨ ∃ g cs, oa = some ⟨g, 0, none⟩ ∧ base ≤ g ∧ Blk w g cs e ∧ cs.take (n * sz) = xs ∧ v.ownBlock = some g) := by
  rcases h.2 with ⟨rfl, h0⟩ | ⟨g, cap, cur, rfl, hb, hg, hn, _, hcs, ht⟩
  · subst h0; exact ⟨none, 0, rfl, Nat.le_refl _, .inl rfl⟩
  · exact ⟨some ⟨g, 0, none⟩, cap, rfl, hn, .inr ⟨g, cur.toList, rfl, hb, by unfold Blk; simpa using hg, ht, rfl⟩⟩

theorem run_appendRow {P : Program} {t e sz bytes : Nat} (hT : rowB P t e sz bytes = true) (h0 : 0 < sz) (ty : TypeId) {w : World} {base : Nat} {v : Value} {n : Nat} {xs : List Value} (hown : w.ownsRow base e sz v n xs)
    (a : Addr) (m c : Nat) (news : List Value) (hl : news.length = m * sz) (hnews : ∀ j u, news[j]? = some u → w.cell? (a.add j) = some u) (h1 : ∀ u ∈ news, u.oneCell' = true)
    (hlim : n + m ≤ 4611686018427387904) (hbytes : (n + m) * bytes ≤ 140737488355328) (hb : base ≤ w.heap.size) :
    ∃ v' w', (Builtin.append_ #[t, t] ty #[v, .slice (some a) m c]).run P w = .ok v' w' ∧ AppR e sz w base v (n + m) (xs ++ news) v' w' := by
  obtain ⟨ht, i, z, hi, hz, s1, s2, s3⟩ := rowB_out hT
  have hml : n + m ≤ maxLen := by unfold maxLen; omega
  obtain ⟨v', w', hr, ho, hg, hnil⟩ := run_append_own (P := P) w base t ty e i z sz bytes ht hi hz s1 s2 s3 h0 v n xs hown a m c news hl hnews h1 hml hbytes hb
  refine ⟨v', w', hr, ho, (Chg.ofGrown hg).mono fun k _ hk => hk.symm, ?_⟩
  rcases hown.2 with ⟨rfl, hn0⟩ | ⟨g, cap, cur, rfl, hbg, hgg, hnc, hcm, hcs, htk⟩
  · subst hn0
    have hx : xs = [] := List.eq_nil_of_length_eq_zero (by rw [hown.1]; simp)
    subst hx
    obtain ⟨v2, w2, hr2, ho2, _, _⟩ := run_append_own (P := P) w w.heap.size t ty e i z sz bytes ht hi hz s1 s2 s3 h0 (.slice none 0 0) 0 [] (World.ownsRow_nil w _ e sz) a m c news hl hnews h1 (by omega) hbytes (Nat.le_refl _)
    rw [hr] at hr2
    simp only [Result.ok.injEq] at hr2
    obtain ⟨rfl, rfl⟩ := hr2
    rcases ho2.2 with ⟨rfl, _⟩ | ⟨g, cap, cur, rfl, hb', _⟩
    · left; rfl
    · right; exact ⟨g, rfl, hb'⟩
  · by_cases hroom : n + m ≤ cap
    · have hr2 := run_append_room (P := P) w t ty e i ht hi g n cap cur hgg a m c news (by rw [s1]; exact hl) hnews h1 hroom (by rw [s1, hl, hcs, ← Nat.add_mul]; exact Nat.mul_le_mul_right _ hroom)
      rw [hr] at hr2
      simp only [Result.ok.injEq] at hr2
      obtain ⟨rfl, _⟩ := hr2
      left; rfl
    · have holds : ∀ j u, xs[j]? = some u → w.cell? ((⟨g, 0, none⟩ : Addr).add j) = some u := World.ownsRow.cells (g := g) hown rfl
      have hr2 := run_append_grow (P := P) w t ty e i z ht hi hz ⟨g, 0, none⟩ n cap xs (by rw [s1]; exact hown.1) holds a m c news (by rw [s1]; exact hl) hnews (by omega) (by omega) (by rw [s2]; exact growslice_fits (by omega) hbytes)
      rw [hr] at hr2
      simp only [Result.ok.injEq] at hr2
      obtain ⟨rfl, _⟩ := hr2
      right; exact ⟨_, rfl, Nat.le_refl _⟩

/-- The append of a literal slice of one element. -/
theorem wl_append1 {P : Program} {ops : Array Oper} {Q : Exit → Act → World → Prop} {a : Act} {w : World} {rest : List Oper} {d1 d2 : Nat} {ty1 ty2 : TypeId} {pos1 pos2 : String} {af1 af2 : Array Edge}
    {t e sz bytes : Nat} (hT : rowB P t e sz bytes = true) (h0 : 0 < sz) (hsz : sz ≤ 16777216) (hz : ∃ z, ∀ w, (zeroValue e).run P w = .ok z w) {x : Operand} {y : Operand} {base : Nat} {v : Value} {n : Nat} {xs cs : List Value}
    (hx : (a.put (some d1) (.slice (some ⟨w.heap.size, 0, none⟩) 1 1)).eval x = v) (hd : d1 < a.tmps.size) (hy : a.eval y = .agg cs.toArray) (hcs : cs.length = sz) (h1 : ∀ u ∈ cs, u.oneCell' = true) (hown : w.ownsRow base e sz v n xs)
    (hlim : n + 1 ≤ 4611686018427387904) (hbytes : (n + 1) * bytes ≤ 140737488355328) (hb : base ≤ w.heap.size)
    (h : ∀ u v' w', AppR e sz w base v (n + 1) (xs ++ cs) v' w' → WL P ops Q rest ((a.put (some d1) u).put (some d2) v') w') :
    WL P ops Q (⟨some d1, .buildSlice t 1 #[(0, y)], ty1, pos1, af1, none⟩ :: ⟨some d2, .call { callee := .builtin .append, args := #[x, .tmp d1], argTypes := #[t, t] }, ty2, pos2, af2, none⟩ :: rest) a w := by
  obtain ⟨ht, i, z, hi, hz', s1, s2, s3⟩ := rowB_out hT
  obtain ⟨zz, hzz⟩ := hz
  have hr := run_buildSlice (P := P) (w := w) (t := t) (e := e) (sz := sz) ht (by simp [sizeB, hi, s1]) hzz [.agg cs.toArray] (by intro v hv; simp only [List.mem_singleton] at hv; subst hv; simpa [Value.cells] using hcs) (by simpa using hsz) h0
  simp only [List.length_cons, List.length_nil, Nat.zero_add, List.zipIdx_cons, List.zipIdx_nil, List.map_cons, List.map_nil, List.flatMap_cons, List.flatMap_nil, List.append_nil] at hr
  have e1 : (Value.agg cs.toArray).cells.toList = cs := rfl
  rw [e1] at hr
  have hc : Chg (fun _ => False) w (w.alloc (.cells cs.toArray e)) := Chg.alloc _ _ _
  have hbk : Blk (w.alloc (.cells cs.toArray e)) w.heap.size cs e := Blk.new _ _ _
  generalize w.alloc (.cells cs.toArray e) = w1 at hr hc hbk
  refine wl_val rfl (v := .slice (some ⟨w.heap.size, 0, none⟩) 1 1) (w' := w1) ?_ ?_
  · simp only [execOp, List.map_toArray, List.map_cons, List.map_nil, hy, Sem.run_bind, hr]; rfl
  obtain ⟨v', w', hr2, ha⟩ := run_appendRow (P := P) hT h0 ty2 (ownsRow_chg hown hc fun _ _ h => h) ⟨w.heap.size, 0, none⟩ 1 1 cs (by rw [hcs]; omega) (fun j u hj => by rw [add_lit, Nat.zero_add, hbk.cell]; exact hj) h1 hlim hbytes (Nat.le_trans hb hc.size)
  refine wl_val rfl (v := v') (w' := w') (by simp [execOp, resolve, invoke, builtin, hx, eval_tmp, get_put_self hd, hr2]) (h _ v' w' ⟨ha.own, ?_, ?_⟩)
  · exact (hc.mono fun _ _ h => h.elim).trans ha.chg fun _ _ h => h
  · rcases ha.blk with h | ⟨k, h1, h2⟩
    · exact .inl h
    · exact .inr ⟨k, h1, Nat.le_trans hc.size h2⟩

end Go.Proofs.Ytkhmglikdlgfpaa
