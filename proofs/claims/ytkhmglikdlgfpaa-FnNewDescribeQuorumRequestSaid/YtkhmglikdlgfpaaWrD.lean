import Derived.Test.YtkhmglikdlgfpaaWrC
/-
AppendTo, field by field: the fields of a part one behind the other, each kind of field, the tail of unknown tags.
-/
namespace Go.Proofs.Ytkhmglikdlgfpaa
set_option linter.all false
open Go.RowKit
set_option maxRecDepth 10000

/-- What is written of a field at its place (nothing where it has a tag, or the version has it not). -/
def fEnc (E : WEnv) (f : Fld) (d : D) : Bs := if decide (f.tag < 0) && f.has E.ver then encF E.flex E.ver f d else []

/-- The slots: all that is written is free, all that is read stays or is no one's. -/
def slotB (N T m k sV sF : Nat) (fl : Bool) (wr rd : List Nat) : Bool :=
  decide (((sV < m ∧ sV ≠ 1) ∨ (T ≤ sV ∧ sV < k)) ∧ (fl = true → ((sF < m ∧ sF ≠ 1) ∨ (T ≤ sF ∧ sF < k)))) &&
  wr.all (fun d => decide (¬ ((d < m ∧ d ≠ 1) ∨ (T ≤ d ∧ d < k)) ∧ d < N)) && rd.all (fun d => decide ((d < m ∧ d ≠ 1) ∨ (T ≤ d ∧ d < k))) && decide ((1 :: (rd ++ wr)).Nodup) && decide (1 < T) && decide (1 < N)
abbrev WEnv.sl (E : WEnv) (m k : Nat) (wr rd : List Nat) : Bool := slotB E.N E.T m k E.sV E.sF E.fl wr rd

section
variable {E : WEnv} {m k : Nat} {y0 y1 y2 y3 y4 y5 y6 y7 y8 y9 y10 y11 y12 y13 y14 y15 y16 y17 y18 y19 y20 y21 y22 y23 y24 y25 y26 y27 y28 y29 y30 y31 y32 y33 y34 y35 y36 y37 y38 y39 : TypeId} {q0 q1 q2 q3 q4 q5 q6 q7 q8 q9 q10 q11 q12 q13 q14 q15 q16 q17 q18 q19 q20 q21 q22 q23 q24 q25 q26 q27 q28 q29 q30 q31 q32 q33 q34 q35 q36 q37 q38 q39 : String} {e0 e1 e2 e3 e4 e5 e6 e7 e8 e9 e10 e11 e12 e13 e14 e15 e16 e17 e18 e19 e20 e21 e22 e23 e24 e25 e26 e27 e28 e29 e30 e31 e32 e33 e34 e35 e36 e37 e38 e39 : Array Edge} {r0 r1 r2 r3 r4 r5 : Nat}

theorem sl_out {wr rd : List Nat} (h : E.sl m k wr rd = true) : E.safe m k ∧ (∀ d ∈ 1 :: wr, Fre E m k d) ∧ (∀ d ∈ rd, WS m E.T k d) ∧ (1 :: (rd ++ wr)).Nodup := by
  unfold WEnv.sl slotB at h
  simp only [Bool.and_eq_true, decide_eq_true_eq, List.all_eq_true] at h
  obtain ⟨⟨⟨⟨⟨⟨h1, h2⟩, h3⟩, h4⟩, h5⟩, h6⟩, h7⟩ := h
  refine ⟨⟨h1, h2⟩, fun d hd => ?_, fun d hd => h4 d hd, h5⟩
  rcases List.mem_cons.1 hd with rfl | hd
  · exact ⟨by unfold WS; omega, h7⟩
  · exact h3 d hd

theorem WS_one (m T k : Nat) (hT : 1 < T) : ¬ WS m T k 1 := by unfold WS; omega

/-- The fields from place i on, and then tl. -/
def fTail (E : WEnv) (fs : List Fld) (s : S) (i : Nat) (tl : Bs) : Bs := encL E.flex E.ver (fs.drop i) (s.ds.drop i) ++ tl

theorem fTail_step {fs : List Fld} {s : S} {i : Nat} {tl : Bs} {f : Fld} {d : D} (hf : fs[i]? = some f) (hd : s.ds[i]? = some d) : fTail E fs s i tl = fEnc E f d ++ fTail E fs s (i + 1) tl := by
  unfold fTail fEnc
  have h1 := (List.getElem?_eq_some_iff.1 hf)
  have h2 := (List.getElem?_eq_some_iff.1 hd)
  obtain ⟨h1, e1⟩ := h1
  obtain ⟨h2, e2⟩ := h2
  rw [List.drop_eq_getElem_cons h1, List.drop_eq_getElem_cons h2, e1, e2]
  rw [encL, List.append_assoc]
theorem fTail_end {fs : List Fld} {s : S} {i : Nat} {tl : Bs} (h : fs.length ≤ i) : fTail E fs s i tl = tl := by
  unfold fTail
  rw [List.drop_of_length_le h]
  rfl

theorem PrS.at_d {sS k0 i : Nat} {fs : List Fld} {s : S} {f : Fld} {a : Act} {w : World} {base : Nat} (h : PrS E sS k0 fs s a w base) (hf : fs[i]? = some f) : ∃ d, s.ds[i]? = some d := by
  obtain ⟨B, p, _, h2, _⟩ := h
  obtain ⟨d, _, _, h3, _⟩ := h2.field hf
  exact ⟨d, h3⟩

/-- Field i, then the others. -/
theorem wr_next {sS k0 i : Nat} {fs : List Fld} {s : S} {f : Fld} {tl : Bs} {c1 c2 : Code} (hf : fs[i]? = some f) (hsl : E.sl m k [] [sS] = true)
    (h1 : ∀ d, s.ds[i]? = some d → WrC E m k c1 (PrS E sS k0 fs s) (fEnc E f d)) (h2 : WrC E m k c2 (PrS E sS k0 fs s) (fTail E fs s (i + 1) tl)) :
    WrC E m k (.seq c1 c2) (PrS E sS k0 fs s) (fTail E fs s i tl) := by
  intro a w base v bs hwk hv hown hb hpre hlim
  obtain ⟨d, hd⟩ := hpre.at_d hf
  rw [fTail_step hf hd] at hlim ⊢
  obtain ⟨hE, _, hr, _⟩ := sl_out hsl
  exact wr_seq hE (h1 d hd) h2 (fun _ _ _ h => h) (PrS.stable (hr sS (by simp))) a w base v bs hwk hv hown hb hpre hlim
/-- A field with a tag stands elsewhere. -/
theorem wr_tagged {sS k0 i : Nat} {fs : List Fld} {s : S} {f : Fld} {tl : Bs} {c : Code} (hf : fs[i]? = some f) (ht : decide (0 ≤ f.tag) = true)
    (h : WrC E m k c (PrS E sS k0 fs s) (fTail E fs s (i + 1) tl)) : WrC E m k c (PrS E sS k0 fs s) (fTail E fs s i tl) := by
  intro a w base v bs hwk hv hown hb hpre hlim
  obtain ⟨d, hd⟩ := hpre.at_d hf
  have e : fEnc E f d = [] := by
    have := of_decide_eq_true ht
    unfold fEnc; rw [if_neg]; simp; omega
  rw [fTail_step hf hd, e, List.nil_append] at hlim ⊢
  exact h a w base v bs hwk hv hown hb hpre hlim
/-- The last field, with nothing behind it. -/
theorem wr_last {sS k0 i : Nat} {fs : List Fld} {s : S} {f : Fld} {c1 : Code} (hf : fs[i]? = some f) (hl : decide (fs.length = i + 1) = true)
    (h1 : ∀ d, s.ds[i]? = some d → WrC E m k c1 (PrS E sS k0 fs s) (fEnc E f d)) : WrC E m k c1 (PrS E sS k0 fs s) (fTail E fs s i []) := by
  intro a w base v bs hwk hv hown hb hpre hlim
  obtain ⟨d, hd⟩ := hpre.at_d hf
  have := of_decide_eq_true hl
  rw [fTail_step hf hd, fTail_end (by omega), List.append_nil] at hlim ⊢
  exact h1 d hd a w base v bs hwk hv hown hb hpre hlim
theorem wr_end {sS k0 i : Nat} {fs : List Fld} {s : S} {tl : Bs} {c : Code} (hl : decide (fs.length ≤ i) = true) (h : WrC E m k c (PrS E sS k0 fs s) tl) : WrC E m k c (PrS E sS k0 fs s) (fTail E fs s i tl) := by
  rw [fTail_end (of_decide_eq_true hl)]; exact h

/-! ### Which versions have a field -/

theorem wf_all {f : Fld} {d : D} {c : Code} {pre : Act → World → Nat → Prop} (hf : (decide (f.tag < 0) && decide (f.from_ ≤ 0) && decide (f.to < 0)) = true) (hv : 0 ≤ E.ver)
    (h : WrC E m k c pre (encF E.flex E.ver f d)) : WrC E m k c pre (fEnc E f d) := by
  simp only [Bool.and_eq_true, decide_eq_true_eq] at hf
  have e : (decide (f.tag < 0) && f.has E.ver) = true := by
    unfold Fld.has
    simp only [Bool.and_eq_true, Bool.or_eq_true, decide_eq_true_eq]
    omega
  unfold fEnc
  rw [if_pos e]; exact h
theorem wf_from {sS k0 t1 t2 u : Nat} {fs : List Fld} {s : S} {f : Fld} {d : D} {n : Int} {c : Code} (hf : (decide (f.tag < 0) && decide (f.from_ = n) && decide (f.to < 0)) = true)
    (hsl : E.sl m k [t1, t2] [sS] = true) (h : n ≤ E.ver → WrC E m k c (PrS E sS k0 fs s) (encF E.flex E.ver f d)) :
    WrC E m k (.seq (.region r0 #[⟨some t1, .move (.tmp E.sV), y0, q0, e0, none⟩, ⟨some t2, .binOp .geq u (.tmp t1) (.const (.int .i16 n)) u, y1, q1, e1, none⟩] false) (.cond (.tmp t2) c .skip)) (PrS E sS k0 fs s) (fEnc E f d) := by
  simp only [Bool.and_eq_true, decide_eq_true_eq] at hf
  have e : fEnc E f d = if n ≤ E.ver then encF E.flex E.ver f d else [] := by
    unfold fEnc Fld.has
    congr 1
    simp only [Bool.and_eq_true, Bool.or_eq_true, decide_eq_true_eq, eq_iff_iff]
    omega
  rw [e]
  obtain ⟨hE, hw, _, hnd⟩ := sl_out hsl
  simp only [List.nodup_cons, List.mem_cons, List.mem_append, List.cons_append, List.nil_append, List.not_mem_nil, or_false, not_or, List.nodup_nil, and_true, not_false_eq_true] at hnd
  exact wr_ifver h (PrS.put (by first | (simp only [hnd, not_false_eq_true, ne_eq]; done) | (intro e; simp [e] at hnd))) (PrS.put (by first | (simp only [hnd, not_false_eq_true, ne_eq]; done) | (intro e; simp [e] at hnd))) ⟨hE, hw t1 (by simp), hw t2 (by simp), (by first | (simp only [hnd, not_false_eq_true, ne_eq]; done) | (intro e; simp [e] at hnd)), (by first | (simp only [hnd, not_false_eq_true, ne_eq]; done) | (intro e; simp [e] at hnd))⟩
/-- if version >= n && version <= n2 { .. } -/
theorem wf_range {sS k0 t1 t2 t3 t4 t5 t6 u : Nat} {fs : List Fld} {s : S} {f : Fld} {d : D} {n n2 : Int} {c : Code} (hf : (decide (f.tag < 0) && decide (f.from_ = n) && decide (f.to = n2) && decide (0 ≤ n2)) = true)
    (hsl : E.sl m k [t1, t2, t3, t4, t5, t6] [sS] = true) (h : n ≤ E.ver → E.ver ≤ n2 → WrC E m k c (PrS E sS k0 fs s) (encF E.flex E.ver f d)) :
    WrC E m k (.seq (.region r0 #[⟨some t1, .move (.tmp E.sV), y0, q0, e0, none⟩, ⟨some t2, .binOp .geq u (.tmp t1) (.const (.int .i16 n)) u, y1, q1, e1, none⟩, ⟨some t3, .move (.tmp t2), y2, q2, e2, none⟩, ⟨some t4, .move (.tmp E.sV), y10, q10, e10, some (2, true)⟩, ⟨some t5, .binOp .leq u (.tmp t4) (.const (.int .i16 n2)) u, y11, q11, e11, some (2, true)⟩, ⟨some t6, .pick (.tmp t3) (.tmp t5) (.const (.bool false)), y3, q3, e3, none⟩] false) (.cond (.tmp t6) c .skip)) (PrS E sS k0 fs s) (fEnc E f d) := by
  simp only [Bool.and_eq_true, decide_eq_true_eq] at hf
  have e : fEnc E f d = if n ≤ E.ver ∧ E.ver ≤ n2 then encF E.flex E.ver f d else [] := by
    unfold fEnc Fld.has
    congr 1
    simp only [Bool.and_eq_true, Bool.or_eq_true, decide_eq_true_eq, eq_iff_iff]
    omega
  rw [e]
  obtain ⟨hE, hfr, hrd, hnd⟩ := sl_out hsl
  simp only [List.mem_cons, List.not_mem_nil, or_false, forall_eq_or_imp, forall_eq, Fre] at hrd
  simp only [List.nodup_cons, List.mem_cons, List.mem_append, List.cons_append, List.nil_append, List.not_mem_nil, or_false, not_or, List.nodup_nil, and_true, not_false_eq_true] at hnd
  simp only [List.mem_cons, List.not_mem_nil, or_false, forall_eq_or_imp, forall_eq, Fre] at hfr
  intro a w base v bs hwk hv hown hb hpre hlim
  have hN := hwk.1
  have hsV : ∀ t ∈ [t1, t2, t3, t4, t5, t6], t ≠ E.sV := by
    intro t ht e
    have h1 := hE.1
    simp only [List.mem_cons, List.not_mem_nil, or_false] at ht
    rcases ht with rfl | rfl | rfl | rfl | rfl | rfl <;> simp only [e, h1, not_true_eq_false, false_and, and_false] at hfr
  simp only [List.mem_cons, List.not_mem_nil, or_false, forall_eq_or_imp, forall_eq] at hsV
  refine wp_seq_k fun K hK => ?_
  refine wp_reg ?_
  refine wl_move ?_
  rw [eval_tmp, hwk.2.2.1]
  refine wl_geq (by simp only [eval_tmp, eval_const, eval_func, get_put_self, get_put_ne, get_put_ne', ne_eq, size_put, hN, hnd, hfr, not_false_eq_true, sameK, decide_true]) ?_
  simp only [eval_tmp, eval_const, eval_func, get_put_self, get_put_ne, get_put_ne', ne_eq, size_put, hN, hnd, hfr, not_false_eq_true, cmp2]
  refine wl_move ?_
  simp only [eval_tmp, eval_const, eval_func, get_put_self, get_put_ne, get_put_ne', ne_eq, size_put, hN, hnd, hfr, not_false_eq_true]
  by_cases hc : n ≤ E.ver
  · rw [decide_eq_true hc]
    refine wl_gyesB rfl rfl (by simp only [eval_tmp, eval_const, eval_func, get_put_self, get_put_ne, get_put_ne', ne_eq, size_put, hN, hnd, hfr, not_false_eq_true]) ?_
    refine wl_move ?_
    simp only [eval_tmp, eval_const, eval_func, get_put_self, get_put_ne, get_put_ne', ne_eq, size_put, hN, hnd, hfr, not_false_eq_true, hsV, hwk.2.2.1]
    refine wl_gyesB rfl rfl (by simp only [eval_tmp, eval_const, eval_func, get_put_self, get_put_ne, get_put_ne', ne_eq, size_put, hN, hnd, hfr, not_false_eq_true]) ?_
    refine wl_leq (by simp only [eval_tmp, eval_const, eval_func, get_put_self, get_put_ne, get_put_ne', ne_eq, size_put, hN, hnd, hfr, not_false_eq_true, sameK, decide_true]) ?_
    simp only [eval_tmp, eval_const, eval_func, get_put_self, get_put_ne, get_put_ne', ne_eq, size_put, hN, hnd, hfr, not_false_eq_true, cmp2]
    refine wl_pickT (by simp only [eval_tmp, eval_const, eval_func, get_put_self, get_put_ne, get_put_ne', ne_eq, size_put, hN, hnd, hfr, not_false_eq_true]) ?_
    simp only [eval_tmp, eval_const, eval_func, get_put_self, get_put_ne, get_put_ne', ne_eq, size_put, hN, hnd, hfr, not_false_eq_true]
    refine wl_nil (hK _ _ ?_)
    by_cases hc2 : E.ver ≤ n2
    · rw [if_pos ⟨hc, hc2⟩] at hlim ⊢
      rw [decide_eq_true hc2]
      exact wp_cond_true (by simp only [eval_tmp, eval_const, eval_func, get_put_self, get_put_ne, get_put_ne', ne_eq, size_put, hN, hnd, hfr, not_false_eq_true]) (wr_go (Nat.le_refl _) (Nat.le_refl _) hE (h hc hc2) hwk hv hown hb hlim (by ((repeat (with_reducible refine Keeps.put ?_ (by simp only [hfr, not_false_eq_true]) _)); with_reducible exact Keeps.refl _ _)) (by simp only [eval_tmp, eval_const, eval_func, get_put_self, get_put_ne, get_put_ne', ne_eq, size_put, hN, hnd, hfr, not_false_eq_true]) (PrS.put (by first | (simp only [hnd, not_false_eq_true, ne_eq]; done) | (intro e; simp [e] at hnd)) _ _ _ _ (PrS.put (by first | (simp only [hnd, not_false_eq_true, ne_eq]; done) | (intro e; simp [e] at hnd)) _ _ _ _ (PrS.put (by first | (simp only [hnd, not_false_eq_true, ne_eq]; done) | (intro e; simp [e] at hnd)) _ _ _ _ (PrS.put (by first | (simp only [hnd, not_false_eq_true, ne_eq]; done) | (intro e; simp [e] at hnd)) _ _ _ _ (PrS.put (by first | (simp only [hnd, not_false_eq_true, ne_eq]; done) | (intro e; simp [e] at hnd)) _ _ _ _ (PrS.put (by first | (simp only [hnd, not_false_eq_true, ne_eq]; done) | (intro e; simp [e] at hnd)) _ _ _ _ hpre)))))))
    · rw [if_neg (fun h => hc2 h.2)] at hlim ⊢
      rw [decide_eq_false hc2]
      exact wp_cond_false (by simp only [eval_tmp, eval_const, eval_func, get_put_self, get_put_ne, get_put_ne', ne_eq, size_put, hN, hnd, hfr, not_false_eq_true]) (wr_go (Nat.le_refl _) (Nat.le_refl _) hE (wr_skip (pre := fun _ _ _ => True)) hwk hv hown hb hlim (by ((repeat (with_reducible refine Keeps.put ?_ (by simp only [hfr, not_false_eq_true]) _)); with_reducible exact Keeps.refl _ _)) (by simp only [eval_tmp, eval_const, eval_func, get_put_self, get_put_ne, get_put_ne', ne_eq, size_put, hN, hnd, hfr, not_false_eq_true]) trivial)
  · rw [decide_eq_false hc]
    refine wl_gnoB rfl rfl (by simp only [eval_tmp, eval_const, eval_func, get_put_self, get_put_ne, get_put_ne', ne_eq, size_put, hN, hnd, hfr, not_false_eq_true]; rfl) ?_
    refine wl_gnoB rfl rfl (by simp only [eval_tmp, eval_const, eval_func, get_put_self, get_put_ne, get_put_ne', ne_eq, size_put, hN, hnd, hfr, not_false_eq_true]; rfl) ?_
    refine wl_pickF (by simp only [eval_tmp, eval_const, eval_func, get_put_self, get_put_ne, get_put_ne', ne_eq, size_put, hN, hnd, hfr, not_false_eq_true]) ?_
    simp only [eval_tmp, eval_const, eval_func, get_put_self, get_put_ne, get_put_ne', ne_eq, size_put, hN, hnd, hfr, not_false_eq_true]
    refine wl_nil (hK _ _ ?_)
    rw [if_neg (fun h => hc h.1)] at hlim ⊢
    exact wp_cond_false (by simp only [eval_tmp, eval_const, eval_func, get_put_self, get_put_ne, get_put_ne', ne_eq, size_put, hN, hnd, hfr, not_false_eq_true]) (wr_go (Nat.le_refl _) (Nat.le_refl _) hE (wr_skip (pre := fun _ _ _ => True)) hwk hv hown hb hlim (by ((repeat (with_reducible refine Keeps.put ?_ (by simp only [hfr, not_false_eq_true]) _)); with_reducible exact Keeps.refl _ _)) (by simp only [eval_tmp, eval_const, eval_func, get_put_self, get_put_ne, get_put_ne', ne_eq, size_put, hN, hnd, hfr, not_false_eq_true]) trivial)

end
end Go.Proofs.Ytkhmglikdlgfpaa
