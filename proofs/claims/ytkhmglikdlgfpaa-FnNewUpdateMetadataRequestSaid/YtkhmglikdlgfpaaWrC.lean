import Derived.Test.YtkhmglikdlgfpaaWrB
/-
Pieces of AppendTo: lists of parts and of values, identifiers of 16 octets, parts within parts, the function as a whole.
-/
namespace Go.Proofs.Ytkhmglikdlgfpaa
set_option linter.all false
open Go.RowKit
set_option maxRecDepth 10000

section
variable {E : WEnv} {m k : Nat} {y0 y1 y2 y3 y4 y5 y6 y7 y8 y9 y10 y11 y12 y13 y14 y15 y16 y17 y18 y19 y20 y21 y22 y23 y24 y25 y26 y27 y28 y29 y30 y31 y32 y33 y34 y35 y36 y37 y38 y39 : TypeId} {q0 q1 q2 q3 q4 q5 q6 q7 q8 q9 q10 q11 q12 q13 q14 q15 q16 q17 q18 q19 q20 q21 q22 q23 q24 q25 q26 q27 q28 q29 q30 q31 q32 q33 q34 q35 q36 q37 q38 q39 : String} {e0 e1 e2 e3 e4 e5 e6 e7 e8 e9 e10 e11 e12 e13 e14 e15 e16 e17 e18 e19 e20 e21 e22 e23 e24 e25 e26 e27 e28 e29 e30 e31 e32 e33 e34 e35 e36 e37 e38 e39 : Array Edge} {r0 r1 r2 r3 r4 r5 : Nat}

/-- The things of a list, in memory. -/
def ML (E : WEnv) (of : K) (sub : List Fld) (l : List D) (oa : Option Addr) (w : World) (base : Nat) : Prop :=
  l = [] ∨ ∃ b cs T, oa = some ⟨b, 0, none⟩ ∧ b < base ∧ Blk w b cs T ∧
    match of with
    | .struct => l.length * ssz E.fl sub ≤ cs.length ∧ ∀ i x, l[i]? = some x → ∃ s : S, x = s.d ∧ ∃ v1 v2, ((cs.drop (i * ssz E.fl sub)).take (ssz E.fl sub)) = v1 ++ v2 ∧ RepL w (fun g => g < base) E.fl sub s.ds v1 ∧ RepT w (fun g => g < base) E.fl s.tags v2
    | k => l.length * ksz k ≤ cs.length ∧ ∀ i x, l[i]? = some x → RepK w (fun g => g < base) k x ((cs.drop (i * ksz k)).take (ksz k))

theorem ML.stable {of : K} {sub : List Fld} {l : List D} {oa : Option Addr} : ∀ w w' base, ML E of sub l oa w base → Chg (fun g => base ≤ g) w w' → base ≤ w.heap.size → ML E of sub l oa w' base := by
  intro w w' base h hc hb
  have st : Stay w w' (fun g => g < base) (fun g => g < base) := Stay.of hc fun n hn _ => by omega
  rcases h with h | ⟨b, cs, T, h1, h2, h3, h4⟩
  · exact .inl h
  · refine .inr ⟨b, cs, T, h1, h2, h3.chg hc (by omega), ?_⟩
    cases of <;> try (exact ⟨h4.1, fun i x hx => (h4.2 i x hx).stay st⟩)
    refine ⟨h4.1, fun i x hx => ?_⟩
    obtain ⟨s, k1, v1, v2, k2, k3, k4⟩ := h4.2 i x hx
    exact ⟨s, k1, v1, v2, k2, RepL.stay st k3, k4.stay st⟩

theorem PrL.stable {x : Nat} {oa : Option Addr} {n cap : Nat} {M : World → Nat → Prop} (hx : WS m E.T k x) (hM : ∀ w w' base, M w base → Chg (fun g => base ≤ g) w w' → base ≤ w.heap.size → M w' base) :
    Stable E m k (PrL x oa n cap M) (PrL x oa n cap M) :=
  fun _ _ _ _ _ h hk hc hb => ⟨(hk.slot _ hx).trans h.1, hM _ _ _ h.2 hc hb⟩

/-- How many, and then each one. -/
theorem wr_list {x : Nat} {a1 a2 a3 a4 a5 : Int} {of : K} {sub : List Fld} {nil : Bool} {l : List D} {c1 c2 : Code} {enc1 enc2 : Bs}
    (h1 : ∀ oa cap, oa.isNone = nil → WrC E m k c1 (PrL x oa l.length cap (ML E of sub l oa)) enc1)
    (h2 : ∀ oa cap, l.length ≤ 1073741824 → WrC E m k c2 (PrL x oa l.length cap (ML E of sub l oa)) enc2)
    (hE : E.safe m k ∧ WS m E.T k x) : WrC E m k (.seq c1 c2) (PrF E x (.mk .list a1 a2 a3 a4 a5 of sub) (.arr nil l)) (enc1 ++ enc2) := by
  intro a w base v bs hwk hv hown hb hpre hlim
  obtain ⟨val, g1, hr⟩ := hpre
  unfold RepF at hr
  dsimp only at hr
  obtain ⟨oa, cap, h3, h4, h5, h6⟩ := hr
  simp only [List.cons.injEq, and_true] at h3
  subst h3
  exact wr_seq hE.1 (h1 oa cap h4.symm) (h2 oa cap h5) (fun _ _ _ h => h) (PrL.stable hE.2 ML.stable) a w base v bs hwk hv hown hb ⟨g1, h6⟩ hlim

/-- dst = f(dst, len(v)) -/
theorem wl_alen {x t1 t2 t3 t4 ty n cap : Nat} {oa : Option Addr} {M : World → Nat → Prop} {enc : Bs} {fn : FuncId} {us : Array TypeId} (hty : slB Try.prog ty = true) (hen : Enters Try.prog fn)
    (hc : AppC fn [.int .i64 n] enc (fun _ => True)) (hfr : ∀ d ∈ [1, t1, t2, t3, t4], Fre E m k d) (hnd : [1, x, t1, t2, t3, t4].Nodup) :
    WrC E m k (.region r0 #[⟨some t1, .move (.tmp 1), y0, q0, e0, none⟩, ⟨some t2, .move (.tmp x), y1, q1, e1, none⟩, ⟨some t3, .call { callee := .builtin .len, args := #[.tmp t2], argTypes := #[ty] }, y2, q2, e2, none⟩, ⟨some t4, .call { callee := .value (.func fn), args := #[.tmp t1, .tmp t3], argTypes := us }, y3, q3, e3, none⟩, ⟨some 1, .assign (.tmp t4), y4, q4, e4, none⟩] false)
      (PrL x oa n cap M) enc := by
  simp only [List.nodup_cons, List.mem_cons, List.not_mem_nil, or_false, not_or, List.nodup_nil, and_true, not_false_eq_true] at hnd; simp only [List.mem_cons, List.not_mem_nil, or_false, forall_eq_or_imp, forall_eq, Fre] at hfr
  intro a w base v bs hwk hv hown hb hpre hlim
  have hN := hwk.1
  obtain ⟨g1, hM⟩ := hpre
  refine wp_reg ?_
  refine wl_move ?_
  refine wl_move ?_
  simp only [eval_tmp, eval_const, eval_func, get_put_self, get_put_ne, get_put_ne', ne_eq, size_put, hN, hnd, hfr, not_false_eq_true, hv, g1]
  refine wl_len hty (by simp only [eval_tmp, eval_const, eval_func, get_put_self, get_put_ne, get_put_ne', ne_eq, size_put, hN, hnd, hfr, not_false_eq_true, isS]) ?_
  simp only [eval_tmp, eval_const, eval_func, get_put_self, get_put_ne, get_put_ne', ne_eq, size_put, hN, hnd, hfr, not_false_eq_true, lenV]
  refine wl_callApp hen hc (by simp only [List.map_toArray, List.map_cons, List.map_nil]; simp only [eval_tmp, eval_const, eval_func, get_put_self, get_put_ne, get_put_ne', ne_eq, size_put, hN, hnd, hfr, not_false_eq_true]) hown hlim hb trivial ?_
  intro v1 w1 happ
  refine wl_assign ?_
  simp only [eval_tmp, eval_const, eval_func, get_put_self, get_put_ne, get_put_ne', ne_eq, size_put, hN, hnd, hfr, not_false_eq_true]
  refine wl_nil ⟨?_, ?_⟩
  · ((repeat (with_reducible refine Keeps.put ?_ (by simp only [hfr, not_false_eq_true]) _)); with_reducible exact Keeps.refl _ _)
  · simp only [eval_tmp, eval_const, eval_func, get_put_self, get_put_ne, get_put_ne', ne_eq, size_put, hN, hnd, hfr, not_false_eq_true]
    exact happ
/-- dst = f(dst, len(v), v == nil) -/
theorem wl_anlen {x t1 t2 t3 t4 t5 t6 ty n cap i j : Nat} {oa : Option Addr} {M : World → Nat → Prop} {enc : Bs} {fn : FuncId} {us : Array TypeId} (hty : slB Try.prog ty = true) (hen : Enters Try.prog fn)
    (hc : AppC fn [.int .i64 n, .bool oa.isNone] enc (fun _ => True)) (hfr : ∀ d ∈ [1, t1, t2, t3, t4, t5, t6], Fre E m k d) (hnd : [1, x, t1, t2, t3, t4, t5, t6].Nodup) :
    WrC E m k (.region r0 #[⟨some t1, .move (.tmp 1), y0, q0, e0, none⟩, ⟨some t2, .move (.tmp x), y1, q1, e1, none⟩, ⟨some t3, .call { callee := .builtin .len, args := #[.tmp t2], argTypes := #[ty] }, y2, q2, e2, none⟩, ⟨some t4, .move (.tmp x), y3, q3, e3, none⟩,
      ⟨some t5, .binOp .eql ty (.tmp t4) (.const (.slice none i j)) ty, y4, q4, e4, none⟩, ⟨some t6, .call { callee := .value (.func fn), args := #[.tmp t1, .tmp t3, .tmp t5], argTypes := us }, y5, q5, e5, none⟩, ⟨some 1, .assign (.tmp t6), y6, q6, e6, none⟩] false)
      (PrL x oa n cap M) enc := by
  simp only [List.nodup_cons, List.mem_cons, List.not_mem_nil, or_false, not_or, List.nodup_nil, and_true, not_false_eq_true] at hnd; simp only [List.mem_cons, List.not_mem_nil, or_false, forall_eq_or_imp, forall_eq, Fre] at hfr
  intro a w base v bs hwk hv hown hb hpre hlim
  have hN := hwk.1
  obtain ⟨g1, hM⟩ := hpre
  refine wp_reg ?_
  refine wl_move ?_
  refine wl_move ?_
  simp only [eval_tmp, eval_const, eval_func, get_put_self, get_put_ne, get_put_ne', ne_eq, size_put, hN, hnd, hfr, not_false_eq_true, hv, g1]
  refine wl_len hty (by simp only [eval_tmp, eval_const, eval_func, get_put_self, get_put_ne, get_put_ne', ne_eq, size_put, hN, hnd, hfr, not_false_eq_true, isS]) ?_
  simp only [eval_tmp, eval_const, eval_func, get_put_self, get_put_ne, get_put_ne', ne_eq, size_put, hN, hnd, hfr, not_false_eq_true, lenV]
  refine wl_move ?_
  simp only [eval_tmp, eval_const, eval_func, get_put_self, get_put_ne, get_put_ne', ne_eq, size_put, hN, hnd, hfr, not_false_eq_true, g1]
  refine wl_eqlNilS hty (by simp only [eval_tmp, eval_const, eval_func, get_put_self, get_put_ne, get_put_ne', ne_eq, size_put, hN, hnd, hfr, not_false_eq_true, isS]) ?_
  simp only [eval_tmp, eval_const, eval_func, get_put_self, get_put_ne, get_put_ne', ne_eq, size_put, hN, hnd, hfr, not_false_eq_true, isNilS]
  refine wl_callApp hen hc (by simp only [List.map_toArray, List.map_cons, List.map_nil]; simp only [eval_tmp, eval_const, eval_func, get_put_self, get_put_ne, get_put_ne', ne_eq, size_put, hN, hnd, hfr, not_false_eq_true]) hown hlim hb trivial ?_
  intro v1 w1 happ
  refine wl_assign ?_
  simp only [eval_tmp, eval_const, eval_func, get_put_self, get_put_ne, get_put_ne', ne_eq, size_put, hN, hnd, hfr, not_false_eq_true]
  refine wl_nil ⟨?_, ?_⟩
  · ((repeat (with_reducible refine Keeps.put ?_ (by simp only [hfr, not_false_eq_true]) _)); with_reducible exact Keeps.refl _ _)
  · simp only [eval_tmp, eval_const, eval_func, get_put_self, get_put_ne, get_put_ne', ne_eq, size_put, hN, hnd, hfr, not_false_eq_true]
    exact happ

theorem PrL.put {x : Nat} {oa : Option Addr} {n cap : Nat} {M : World → Nat → Prop} {t : Nat} (h : t ≠ x) : ∀ a w base v, PrL x oa n cap M a w base → PrL x oa n cap M (a.put (some t) v) w base :=
  fun _ _ _ _ ⟨h1, h2⟩ => ⟨(get_put_ne h).trans h1, h2⟩

/-- if version >= n { .. } else { .. } -/
theorem wv_ver {t1 t2 u : Nat} {ca cb : Code} {n : Int} {pre : Act → World → Nat → Prop} {enc : Bs}
    (ha : n ≤ E.ver → WrC E m k ca pre enc) (hb' : ¬ n ≤ E.ver → WrC E m k cb pre enc) (hp : ∀ a w base v, pre a w base → pre (a.put (some t1) v) w base) (hp2 : ∀ a w base v, pre a w base → pre (a.put (some t2) v) w base)
    (hsl : E.safe m k ∧ Fre E m k t1 ∧ Fre E m k t2 ∧ t1 ≠ 1 ∧ t2 ≠ 1) :
    WrC E m k (.seq (.region r0 #[⟨some t1, .move (.tmp E.sV), y0, q0, e0, none⟩, ⟨some t2, .binOp .geq u (.tmp t1) (.const (.int .i16 n)) u, y1, q1, e1, none⟩] false) (.cond (.tmp t2) ca cb)) pre enc := by
  obtain ⟨hE, f1, f2, n1, n2⟩ := hsl
  intro a w base v bs hok hv hown hb hpre hlim
  refine wp_seq_k fun K hK => ?_
  refine wp_reg ?_
  refine wl_move ?_
  rw [eval_tmp, hok.2.2.1]
  have hx : (a.put (some t1) (.int .i16 E.ver)).eval (.tmp t1) = .int .i16 E.ver := by rw [eval_tmp, get_put_self (by rw [hok.1]; exact f1.2)]
  refine wl_geq (by rw [hx]; rfl) ?_
  rw [hx]
  simp only [eval_const, cmp2]
  refine wl_nil (hK _ _ ?_)
  have hkp : Keeps (WS m E.T k) a ((a.put (some t1) (.int .i16 E.ver)).put (some t2) (.bool (decide (n ≤ E.ver)))) := ((Keeps.refl _ _).put f1.1 _).put f2.1 _
  have hev : ((a.put (some t1) (.int .i16 E.ver)).put (some t2) (.bool (decide (n ≤ E.ver)))).eval (.tmp t2) = .bool (decide (n ≤ E.ver)) := by rw [eval_tmp, get_put_self (by rw [size_put, hok.1]; exact f2.2)]
  by_cases hc : n ≤ E.ver
  · rw [decide_eq_true hc] at hev hkp ⊢
    exact wp_cond_true hev (wr_go (Nat.le_refl _) (Nat.le_refl _) hE (ha hc) hok hv hown hb hlim hkp ((get_put_ne n2).trans (get_put_ne n1)) (hp2 _ _ _ _ (hp _ _ _ _ hpre)))
  · rw [decide_eq_false hc] at hev hkp ⊢
    exact wp_cond_false hev (wr_go (Nat.le_refl _) (Nat.le_refl _) hE (hb' hc) hok hv hown hb hlim hkp ((get_put_ne n2).trans (get_put_ne n1)) (hp2 _ _ _ _ (hp _ _ _ _ hpre)))

/-- What is written of the thing at a place of a list of parts. -/
def encAtS (enc : S → Bs) (l : List D) (i : Nat) : Bs := match l[i]? with | some (.struct ds tags) => enc ⟨ds, tags⟩ | _ => []
theorem flat_encAtS (enc : S → Bs) : ∀ (l : List D), (List.range l.length).flatMap (encAtS enc l) = l.flatMap fun x => match x with | .struct ds tags => enc ⟨ds, tags⟩ | _ => []
  | l => by
    have h : ∀ (r : List D) (p : List D), l = p ++ r → (List.range' p.length r.length).flatMap (encAtS enc l) = r.flatMap fun x => match x with | .struct ds tags => enc ⟨ds, tags⟩ | _ => [] := by
      intro r
      induction r with
      | nil => intro p _; simp
      | cons x r ih =>
        intro p hp
        have := ih (p ++ [x]) (by simp [hp])
        rw [List.length_append, List.length_singleton] at this
        rw [List.length_cons, List.range'_succ, List.flatMap_cons, this, List.flatMap_cons]
        congr 1
        simp only [encAtS, hp, List.getElem?_append_right (Nat.le_refl _), Nat.sub_self, List.getElem?_cons_zero]
        cases x <;> rfl
    have := h l [] rfl
    rw [List.range_eq_range']
    simpa using this
def encAtK (enc : D → Bs) (l : List D) (i : Nat) : Bs := match l[i]? with | some x => enc x | none => []
theorem flat_encAtK (enc : D → Bs) : ∀ (l : List D), (List.range l.length).flatMap (encAtK enc l) = l.flatMap enc
  | l => by
    have h : ∀ (r : List D) (p : List D), l = p ++ r → (List.range' p.length r.length).flatMap (encAtK enc l) = r.flatMap enc := by
      intro r
      induction r with
      | nil => intro p _; simp
      | cons x r ih =>
        intro p hp
        have := ih (p ++ [x]) (by simp [hp])
        rw [List.length_append, List.length_singleton] at this
        rw [List.length_cons, List.range'_succ, List.flatMap_cons, this, List.flatMap_cons]
        congr 1
        simp only [encAtK, hp, List.getElem?_append_right (Nat.le_refl _), Nat.sub_self, List.getElem?_cons_zero]
    have := h l [] rfl
    rw [List.range_eq_range']
    simpa using this

/-- The body of a loop over parts. -/
theorem wr_elemS {x u2 i y c1 c2 c3 c4 ty sz m' k' j n cap : Nat} {oa : Option Addr} {sub : List Fld} {l : List D} {c : Code} {enc : S → Bs}
    (hty : sliceB Try.prog ty sz = true) (hsz : sz = ssz E.fl sub) (hn : n = l.length) (hj : j < n) (h : ∀ s : S, s.d ∈ l → WrC E m' k' c (PrS E y 0 sub s) (enc s))
    (hE : E.safe m k ∧ m ≤ m' ∧ k ≤ k') (hfr : ∀ d ∈ [c1, i, c2, c3, c4, y], Fre E m k d) (hnd : [1, x, u2, c1, i, c2, c3, c4, y].Nodup) :
    WrC E m k (.seq (.region r0 #[⟨some c1, .move (.tmp u2), y0, q0, e0, none⟩, ⟨some i, .assign (.tmp c1), y1, q1, e1, none⟩] false) (.seq (.region r1 #[⟨some c2, .move (.tmp x), y2, q2, e2, none⟩, ⟨some c3, .move (.tmp i), y3, q3, e3, none⟩, ⟨some c4, .indexAddr ty (.tmp c2) (.tmp c3), y4, q4, e4, none⟩, ⟨some y, .assign (.tmp c4), y5, q5, e5, none⟩] false) c))
      (fun a w base => get a u2 = .int .i64 j ∧ PrL x oa n cap (ML E .struct sub l oa) a w base) (encAtS enc l j) := by
  obtain ⟨hE, hm, hk⟩ := hE
  simp only [List.nodup_cons, List.mem_cons, List.not_mem_nil, or_false, not_or, List.nodup_nil, and_true, not_false_eq_true] at hnd; simp only [List.mem_cons, List.not_mem_nil, or_false, forall_eq_or_imp, forall_eq, Fre] at hfr
  intro a w base v bs hwk hv hown hb hpre hlim
  have hN := hwk.1
  obtain ⟨g2, g1, hM⟩ := hpre
  subst hn
  have hx : l[j]? = some l[j] := by simp [hj]
  rcases hM with h0 | ⟨b, cs, T, rfl, hbb, hbk, hlen, hel⟩
  · rw [h0] at hj; cases hj
  obtain ⟨s, hs, v1, v2, e1, e2, e3⟩ := hel j _ hx
  have he : encAtS enc l j = enc s := by unfold encAtS; rw [hx, hs]; rfl
  rw [he] at hlim ⊢
  refine wp_seq_k fun K hK => ?_
  refine wp_reg ?_
  refine wl_move ?_
  simp only [eval_tmp, eval_const, eval_func, get_put_self, get_put_ne, get_put_ne', ne_eq, size_put, hN, hnd, hfr, not_false_eq_true, g2]
  refine wl_assign ?_
  simp only [eval_tmp, eval_const, eval_func, get_put_self, get_put_ne, get_put_ne', ne_eq, size_put, hN, hnd, hfr, not_false_eq_true]
  refine wl_nil (hK _ _ ?_)
  clear hK K
  refine wp_seq_k fun K hK => ?_
  refine wp_reg ?_
  refine wl_move ?_
  simp only [eval_tmp, eval_const, eval_func, get_put_self, get_put_ne, get_put_ne', ne_eq, size_put, hN, hnd, hfr, not_false_eq_true, g1]
  refine wl_move ?_
  simp only [eval_tmp, eval_const, eval_func, get_put_self, get_put_ne, get_put_ne', ne_eq, size_put, hN, hnd, hfr, not_false_eq_true]
  refine wl_indexAddr (b := b) (o := 0) (k := .i64) (i := j) (len := l.length) (cap := cap) hty (by simp only [eval_tmp, eval_const, eval_func, get_put_self, get_put_ne, get_put_ne', ne_eq, size_put, hN, hnd, hfr, not_false_eq_true]) (by simp only [eval_tmp, eval_const, eval_func, get_put_self, get_put_ne, get_put_ne', ne_eq, size_put, hN, hnd, hfr, not_false_eq_true]) hj ?_
  refine wl_assign ?_
  simp only [eval_tmp, eval_const, eval_func, get_put_self, get_put_ne, get_put_ne', ne_eq, size_put, hN, hnd, hfr, not_false_eq_true]
  refine wl_nil (hK _ _ ?_)
  have hmem : s.d ∈ l := by rw [← hs]; exact List.getElem_mem hj
  refine wr_go hm hk hE (h s hmem) hwk hv hown hb hlim (by ((repeat (with_reducible refine Keeps.put ?_ (by simp only [hfr, not_false_eq_true]) _)); with_reducible exact Keeps.refl _ _)) (by simp only [eval_tmp, eval_const, eval_func, get_put_self, get_put_ne, get_put_ne', ne_eq, size_put, hN, hnd, hfr, not_false_eq_true]) ⟨b, 0 + j * sz, by simp only [eval_tmp, eval_const, eval_func, get_put_self, get_put_ne, get_put_ne', ne_eq, size_put, hN, hnd, hfr, not_false_eq_true], ?_, hbb⟩
  refine ⟨cs, T, hbk, ?_, v1, v2, ?_, e2, e3⟩
  · have : (j + 1) * ssz E.fl sub ≤ l.length * ssz E.fl sub := Nat.mul_le_mul_right _ hj
    rw [Nat.add_mul] at this
    rw [hsz]; omega
  · rw [← e1, hsz]; simp

/-- The kind of a thing as a field. -/
abbrev kf (of : K) : Fld := .mk of 0 (-1) (-1) (-1) 0 .bool []

theorem repF_kf {w : World} {G : Nat → Prop} {fl : Bool} {of : K} {d : D} {vs : List Value} (h1 : of ≠ .struct) (h2 : of ≠ .list) (h : RepK w G of d vs) : RepF w G fl (kf of) d vs := by
  unfold kf
  cases of <;> first | exact absurd rfl h1 | exact absurd rfl h2 | (unfold RepF; exact h) | (unfold RepF; dsimp only; rw [if_pos (by decide)]; exact h)

/-- The body of a loop over values of one cell. -/
theorem wr_elemK {x u2 i y c1 c2 c3 c4 c5 ty ty2 m' k' j n cap : Nat} {oa : Option Addr} {of : K} {sub : List Fld} {l : List D} {c : Code} {enc : D → Bs}
    (hty : sliceB Try.prog ty 1 = true) (hty2 : scalB Try.prog ty2 = true) (hof : of ≠ .struct ∧ of ≠ .list ∧ ksz of = 1) (hn : n = l.length) (hj : j < n) (h : ∀ d, d ∈ l → WrC E m' k' c (PrF E y (kf of) d) (enc d))
    (hE : E.safe m k ∧ m ≤ m' ∧ k ≤ k') (hfr : ∀ d ∈ [c1, i, c2, c3, c4, c5, y], Fre E m k d) (hnd : [1, x, u2, c1, i, c2, c3, c4, c5, y].Nodup) :
    WrC E m k (.seq (.region r0 #[⟨some c1, .move (.tmp u2), y0, q0, e0, none⟩, ⟨some i, .assign (.tmp c1), y1, q1, e1, none⟩] false) (.seq (.region r1 #[⟨some c2, .move (.tmp x), y2, q2, e2, none⟩, ⟨some c3, .move (.tmp i), y3, q3, e3, none⟩, ⟨some c4, .indexAddr ty (.tmp c2) (.tmp c3), y4, q4, e4, none⟩, ⟨some c5, .load ty2 (.tmp c4), y5, q5, e5, none⟩, ⟨some y, .assign (.tmp c5), y6, q6, e6, none⟩] false) c))
      (fun a w base => get a u2 = .int .i64 j ∧ PrL x oa n cap (ML E of sub l oa) a w base) (encAtK enc l j) := by
  obtain ⟨hE, hm, hk⟩ := hE
  simp only [List.nodup_cons, List.mem_cons, List.not_mem_nil, or_false, not_or, List.nodup_nil, and_true, not_false_eq_true] at hnd; simp only [List.mem_cons, List.not_mem_nil, or_false, forall_eq_or_imp, forall_eq, Fre] at hfr
  intro a w base v bs hwk hv hown hb hpre hlim
  have hN := hwk.1
  obtain ⟨g2, g1, hM⟩ := hpre
  subst hn
  have hx : l[j]? = some l[j] := by simp [hj]
  have he : encAtK enc l j = enc l[j] := by unfold encAtK; rw [hx]
  rw [he] at hlim ⊢
  have hM' : ∃ b cs T, oa = some ⟨b, 0, none⟩ ∧ b < base ∧ Blk w b cs T ∧ l.length * ksz of ≤ cs.length ∧ ∀ i x, l[i]? = some x → RepK w (fun g => g < base) of x ((cs.drop (i * ksz of)).take (ksz of)) := by
    rcases hM with h0 | ⟨b, cs, T, h1, h2, h3, h4⟩
    · rw [h0] at hj; cases hj
    · refine ⟨b, cs, T, h1, h2, h3, ?_⟩
      cases of <;> first | exact absurd rfl hof.1 | exact absurd rfl hof.2.1 | exact h4
  obtain ⟨b, cs, T, rfl, hbb, hbk, hlen, hel⟩ := hM'
  have hr := hel j _ hx
  rw [hof.2.2] at hlen hr
  obtain ⟨val, hval, hseg⟩ := seg1 (l := cs) (o := j * 1) (by omega)
  rw [hseg] at hr
  refine wp_seq_k fun K hK => ?_
  refine wp_reg ?_
  refine wl_move ?_
  simp only [eval_tmp, eval_const, eval_func, get_put_self, get_put_ne, get_put_ne', ne_eq, size_put, hN, hnd, hfr, not_false_eq_true, g2]
  refine wl_assign ?_
  simp only [eval_tmp, eval_const, eval_func, get_put_self, get_put_ne, get_put_ne', ne_eq, size_put, hN, hnd, hfr, not_false_eq_true]
  refine wl_nil (hK _ _ ?_)
  clear hK K
  refine wp_seq_k fun K hK => ?_
  refine wp_reg ?_
  refine wl_move ?_
  simp only [eval_tmp, eval_const, eval_func, get_put_self, get_put_ne, get_put_ne', ne_eq, size_put, hN, hnd, hfr, not_false_eq_true, g1]
  refine wl_move ?_
  simp only [eval_tmp, eval_const, eval_func, get_put_self, get_put_ne, get_put_ne', ne_eq, size_put, hN, hnd, hfr, not_false_eq_true]
  refine wl_indexAddr (b := b) (o := 0) (k := .i64) (i := j) (len := l.length) (cap := cap) hty (by simp only [eval_tmp, eval_const, eval_func, get_put_self, get_put_ne, get_put_ne', ne_eq, size_put, hN, hnd, hfr, not_false_eq_true]) (by simp only [eval_tmp, eval_const, eval_func, get_put_self, get_put_ne, get_put_ne', ne_eq, size_put, hN, hnd, hfr, not_false_eq_true]) hj ?_
  refine wl_load (b := b) (o := 0 + j * 1) hty2 (by simp only [eval_tmp, eval_const, eval_func, get_put_self, get_put_ne, get_put_ne', ne_eq, size_put, hN, hnd, hfr, not_false_eq_true]) hbk (v := val) (by rw [Nat.zero_add]; exact hval) ?_
  refine wl_assign ?_
  simp only [eval_tmp, eval_const, eval_func, get_put_self, get_put_ne, get_put_ne', ne_eq, size_put, hN, hnd, hfr, not_false_eq_true]
  refine wl_nil (hK _ _ ?_)
  exact wr_go hm hk hE (h _ (List.getElem_mem hj)) hwk hv hown hb hlim (by ((repeat (with_reducible refine Keeps.put ?_ (by simp only [hfr, not_false_eq_true]) _)); with_reducible exact Keeps.refl _ _)) (by simp only [eval_tmp, eval_const, eval_func, get_put_self, get_put_ne, get_put_ne', ne_eq, size_put, hN, hnd, hfr, not_false_eq_true]) ⟨val, by simp only [eval_tmp, eval_const, eval_func, get_put_self, get_put_ne, get_put_ne', ne_eq, size_put, hN, hnd, hfr, not_false_eq_true], repF_kf hof.1 hof.2.1 hr⟩

/-- v := T(v), and what writes it. -/
theorem wv_conv {x y t m' k' : Nat} {f : Fld} {d : D} {c : Code} {enc : Bs} (h : WrC E m' k' c (PrF E y f d) enc) (hE : E.safe m k ∧ m ≤ m' ∧ k ≤ k') (hfr : ∀ d ∈ [t, y], Fre E m k d) (hnd : [1, x, t, y].Nodup) :
    WrC E m k (.seq (.region r0 #[⟨some t, .move (.tmp x), y0, q0, e0, none⟩, ⟨some y, .assign (.tmp t), y1, q1, e1, none⟩] false) c) (PrF E x f d) enc := by
  obtain ⟨hE, hm, hk⟩ := hE
  simp only [List.nodup_cons, List.mem_cons, List.not_mem_nil, or_false, not_or, List.nodup_nil, and_true, not_false_eq_true] at hnd; simp only [List.mem_cons, List.not_mem_nil, or_false, forall_eq_or_imp, forall_eq, Fre] at hfr
  intro a w base v bs hwk hv hown hb hpre hlim
  have hN := hwk.1
  obtain ⟨val, g1, hr⟩ := hpre
  refine wp_seq_k fun K hK => ?_
  refine wp_reg ?_
  refine wl_move ?_
  simp only [eval_tmp, eval_const, eval_func, get_put_self, get_put_ne, get_put_ne', ne_eq, size_put, hN, hnd, hfr, not_false_eq_true, g1]
  refine wl_assign ?_
  simp only [eval_tmp, eval_const, eval_func, get_put_self, get_put_ne, get_put_ne', ne_eq, size_put, hN, hnd, hfr, not_false_eq_true]
  refine wl_nil (hK _ _ ?_)
  exact wr_go hm hk hE h hwk hv hown hb hlim (by ((repeat (with_reducible refine Keeps.put ?_ (by simp only [hfr, not_false_eq_true]) _)); with_reducible exact Keeps.refl _ _)) (by simp only [eval_tmp, eval_const, eval_func, get_put_self, get_put_ne, get_put_ne', ne_eq, size_put, hN, hnd, hfr, not_false_eq_true]) ⟨val, by simp only [eval_tmp, eval_const, eval_func, get_put_self, get_put_ne, get_put_ne', ne_eq, size_put, hN, hnd, hfr, not_false_eq_true], hr⟩

/-- v := &s.F, and what writes the part. -/
theorem wr_inner {sS k0 i T idx y t1 t2 t3 m' k' off n : Nat} {fs sub : List Fld} {s s' : S} {a1 a2 a3 a4 a5 : Int} {of : K} {c : Code} {enc : Bs}
    (hf : fs[i]? = some (.mk .struct a1 a2 a3 a4 a5 of sub)) (hnull : a3 < 0) (hd : s.ds[i]? = some s'.d) (hF : fieldB Try.prog T idx off n = true) (ho : off = k0 + foff E.fl fs i)
    (h : WrC E m' k' c (PrS E y 0 sub s') enc) (hE : E.safe m k ∧ m ≤ m' ∧ k ≤ k') (hfr : ∀ d ∈ [t1, t2, t3, y], Fre E m k d) (hnd : [1, sS, t1, t2, t3, y].Nodup) :
    WrC E m k (.seq (.region r0 #[⟨some t1, .move (.tmp sS), y0, q0, e0, none⟩, ⟨some t2, .nilCheck (.tmp t1), y1, q1, e1, none⟩, ⟨some t3, .fieldAddr T (.tmp t2) idx, y2, q2, e2, none⟩, ⟨some y, .assign (.tmp t3), y3, q3, e3, none⟩] false) c) (PrS E sS k0 fs s) enc := by
  obtain ⟨hE, hm, hk⟩ := hE
  simp only [List.nodup_cons, List.mem_cons, List.not_mem_nil, or_false, not_or, List.nodup_nil, and_true, not_false_eq_true] at hnd; simp only [List.mem_cons, List.not_mem_nil, or_false, forall_eq_or_imp, forall_eq, Fre] at hfr
  intro a w base v bs hwk hv hown hb hpre hlim
  have hN := hwk.1
  obtain ⟨B, p, g1, hat, hB⟩ := hpre
  obtain ⟨d', cs, Tb, k1, k2, k3, k4⟩ := hat.field hf
  rw [hd] at k1
  have hfz : fsz E.fl (.mk .struct a1 a2 a3 a4 a5 of sub) = ssz E.fl sub := by simp [fsz, hnull, ssz]
  rw [hfz] at k3 k4
  unfold RepF at k4
  dsimp only at k4
  rw [if_pos hnull] at k4
  obtain ⟨s2, e1, v1, v2, e2, e3, e4⟩ := k4
  have es : s2 = s' := by
    cases s2; cases s'
    rw [e1] at k1
    simp [S.d] at k1
    simp [k1]
  subst es
  refine wp_seq_k fun K hK => ?_
  refine wp_reg ?_
  refine wl_move ?_
  simp only [eval_tmp, eval_const, eval_func, get_put_self, get_put_ne, get_put_ne', ne_eq, size_put, hN, hnd, hfr, not_false_eq_true, g1]
  refine wl_nilCheck (p := ⟨B, p, none⟩) (by simp only [eval_tmp, eval_const, eval_func, get_put_self, get_put_ne, get_put_ne', ne_eq, size_put, hN, hnd, hfr, not_false_eq_true]) ?_
  refine wl_fieldAddr (b := B) (o := p) hF (by simp only [eval_tmp, eval_const, eval_func, get_put_self, get_put_ne, get_put_ne', ne_eq, size_put, hN, hnd, hfr, not_false_eq_true]) ?_
  refine wl_assign ?_
  simp only [eval_tmp, eval_const, eval_func, get_put_self, get_put_ne, get_put_ne', ne_eq, size_put, hN, hnd, hfr, not_false_eq_true]
  refine wl_nil (hK _ _ ?_)
  refine wr_go hm hk hE h hwk hv hown hb hlim (by ((repeat (with_reducible refine Keeps.put ?_ (by simp only [hfr, not_false_eq_true]) _)); with_reducible exact Keeps.refl _ _)) (by simp only [eval_tmp, eval_const, eval_func, get_put_self, get_put_ne, get_put_ne', ne_eq, size_put, hN, hnd, hfr, not_false_eq_true]) ⟨B, p + off, by simp only [eval_tmp, eval_const, eval_func, get_put_self, get_put_ne, get_put_ne', ne_eq, size_put, hN, hnd, hfr, not_false_eq_true], ⟨cs, Tb, k2, by omega, v1, v2, ?_, e3, e4⟩, hB⟩
  rw [← e2]; congr 2; omega

/-- v := s.F, of 16 octets; dst = f(dst, v) -/
theorem wr_uuid {sS k0 i T idx x t1 t2 t3 t4 u1 u2 u3 ty off n : Nat} {us : Array TypeId} {fs : List Fld} {s : S} {a1 a2 a3 a4 a5 : Int} {of : K} {sub : List Fld} {l : Bs} {z : Value} {fn : FuncId}
    (hf : fs[i]? = some (.mk .uuid a1 a2 a3 a4 a5 of sub)) (hd : s.ds[i]? = some (.uuid l)) (hF : fieldB Try.prog T idx off n = true) (ho : off = k0 + foff E.fl fs i)
    (hty : aggB Try.prog ty = true ∧ sizeB Try.prog ty 16 = true) (hz : zeroB Try.prog ty z) (hzs : z.cells.size = 16) (hen : Enters Try.prog fn) (hc : ∀ l : Bs, l.length = 16 → AppC fn [.agg (l.map byteV).toArray] l (fun _ => True))
    (hfr : ∀ d ∈ [1, t1, t2, t3, t4, x, u1, u2, u3], Fre E m k d) (hnd : [1, sS, t1, t2, t3, t4, x, u1, u2, u3].Nodup) :
    WrC E m k (.seq (.region r0 #[⟨some t1, .move (.tmp sS), y0, q0, e0, none⟩, ⟨some t2, .nilCheck (.tmp t1), y1, q1, e1, none⟩, ⟨some t3, .fieldAddr T (.tmp t2) idx, y2, q2, e2, none⟩, ⟨some t4, .load ty (.tmp t3), y3, q3, e3, none⟩, ⟨some x, .alloc ty, y4, q4, e4, none⟩, ⟨none, .store ty (.tmp x) (.tmp t4), y5, q5, e5, none⟩] false)
      (.region r1 #[⟨some u1, .move (.tmp 1), y6, q6, e6, none⟩, ⟨some u2, .load ty (.tmp x), y7, q7, e7, none⟩, ⟨some u3, .call { callee := .value (.func fn), args := #[.tmp u1, .tmp u2], argTypes := us }, y8, q8, e8, none⟩, ⟨some 1, .assign (.tmp u3), y9, q9, e9, none⟩] false)) (PrS E sS k0 fs s) l := by
  simp only [List.nodup_cons, List.mem_cons, List.not_mem_nil, or_false, not_or, List.nodup_nil, and_true, not_false_eq_true] at hnd; simp only [List.mem_cons, List.not_mem_nil, or_false, forall_eq_or_imp, forall_eq, Fre] at hfr
  intro a w base v bs hwk hv hown hb hpre hlim
  have hN := hwk.1
  obtain ⟨B, p, g1, hat, hB⟩ := hpre
  obtain ⟨d', cs, Tb, k1, k2, k3, k4⟩ := hat.field hf
  rw [hd] at k1
  cases k1
  have hfz : fsz E.fl (.mk .uuid a1 a2 a3 a4 a5 of sub) = 16 := by simp [fsz, ksz]
  rw [hfz] at k3 k4
  unfold RepF at k4
  obtain ⟨hl, hvs⟩ := k4
  refine wp_seq_k fun K hK => ?_
  refine wp_reg ?_
  refine wl_move ?_
  simp only [eval_tmp, eval_const, eval_func, get_put_self, get_put_ne, get_put_ne', ne_eq, size_put, hN, hnd, hfr, not_false_eq_true, g1]
  refine wl_nilCheck (p := ⟨B, p, none⟩) (by simp only [eval_tmp, eval_const, eval_func, get_put_self, get_put_ne, get_put_ne', ne_eq, size_put, hN, hnd, hfr, not_false_eq_true]) ?_
  refine wl_fieldAddr (b := B) (o := p) hF (by simp only [eval_tmp, eval_const, eval_func, get_put_self, get_put_ne, get_put_ne', ne_eq, size_put, hN, hnd, hfr, not_false_eq_true]) ?_
  refine wl_loadAgg (b := B) (o := p + off) hty.1 hty.2 (by simp only [eval_tmp, eval_const, eval_func, get_put_self, get_put_ne, get_put_ne', ne_eq, size_put, hN, hnd, hfr, not_false_eq_true]) k2 (by omega) ?_
  rw [show p + off = p + k0 + foff E.fl fs i by omega, hvs]
  refine wl_alloc hz ?_
  have hb1 : Blk (w.alloc (.cells z.cells ty)) w.heap.size z.cells.toList ty := Blk.newA _ _ _
  have hc1 : Chg (fun _ => False) w (w.alloc (.cells z.cells ty)) := Chg.alloc _ _ _
  refine wl_store (b := w.heap.size) (o := 0) (v := .agg (l.map byteV).toArray) hty.2 (by simp only [eval_tmp, eval_const, eval_func, get_put_self, get_put_ne, get_put_ne', ne_eq, size_put, hN, hnd, hfr, not_false_eq_true]) (by simp only [eval_tmp, eval_const, eval_func, get_put_self, get_put_ne, get_put_ne', ne_eq, size_put, hN, hnd, hfr, not_false_eq_true]) hb1 (by simp [Value.cells, hl]) (by simp only [Value.cells]; exact byteV_one l) (by rw [Array.length_toList, hzs]; omega) ?_
  intro w1 hb2 hc2
  rw [put_none]
  have hsp : splice z.cells.toList 0 (Value.agg (l.map byteV).toArray).cells.toList = l.map byteV := by
    have e : (Value.agg (l.map byteV).toArray).cells.toList = l.map byteV := rfl
    rw [e]
    simp only [splice, List.take_zero, List.nil_append, Nat.zero_add]
    rw [List.drop_of_length_le (by rw [List.length_map, hl, Array.length_toList, hzs]; exact Nat.le_refl _), List.append_nil]
  rw [hsp] at hb2
  have hc3 : Chg (fun g => g = w.heap.size) w w1 := (hc1.mono (Y := fun g => g = w.heap.size) fun _ _ h => h.elim).trans hc2 fun _ _ h => h
  have hc4 : Chg (fun _ => False) w w1 := hc3.mono fun n hn h => by omega
  refine wl_nil (hK _ _ ?_)
  clear hK K
  refine wp_reg ?_
  refine wl_move ?_
  simp only [eval_tmp, eval_const, eval_func, get_put_self, get_put_ne, get_put_ne', ne_eq, size_put, hN, hnd, hfr, not_false_eq_true, hv]
  refine wl_loadAgg (b := w.heap.size) (o := 0) hty.1 hty.2 (by simp only [eval_tmp, eval_const, eval_func, get_put_self, get_put_ne, get_put_ne', ne_eq, size_put, hN, hnd, hfr, not_false_eq_true]) hb2 (by simp [hl]) ?_
  have hld : (((l.map byteV).drop 0).take 16) = l.map byteV := by rw [List.drop_zero, List.take_of_length_le (by simp [hl])]
  rw [hld]
  refine wl_callApp hen (hc l hl) (by simp only [List.map_toArray, List.map_cons, List.map_nil]; simp only [eval_tmp, eval_const, eval_func, get_put_self, get_put_ne, get_put_ne', ne_eq, size_put, hN, hnd, hfr, not_false_eq_true]) (hown.chg hc4 fun _ _ h => h) hlim (Nat.le_trans hb hc4.size) trivial ?_
  intro v1 w2 happ
  refine wl_assign ?_
  simp only [eval_tmp, eval_const, eval_func, get_put_self, get_put_ne, get_put_ne', ne_eq, size_put, hN, hnd, hfr, not_false_eq_true]
  refine wl_nil ⟨?_, ?_⟩
  · ((repeat (with_reducible refine Keeps.put ?_ (by simp only [hfr, not_false_eq_true]) _)); with_reducible exact Keeps.refl _ _)
  · simp only [eval_tmp, eval_const, eval_func, get_put_self, get_put_ne, get_put_ne', ne_eq, size_put, hN, hnd, hfr, not_false_eq_true]
    refine ⟨happ.own, (hc4.mono fun _ _ h => h.elim).trans happ.chg fun _ _ h => h, ?_⟩
    rcases happ.blk with h | ⟨g, h1, h2⟩
    · exact .inl h
    · exact .inr ⟨g, h1, Nat.le_trans hc4.size h2⟩

end
end Go.Proofs.Ytkhmglikdlgfpaa
