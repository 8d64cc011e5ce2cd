import Derived.Test.YtkhmglikdlgfpaaWr
import Derived.Test.YtkhmglikdlgfpaaTags
/-
More pieces of AppendTo: lists, parts, unknown tags, the whole function.
-/
namespace Go.Proofs.Ytkhmglikdlgfpaa
set_option linter.all false
open Go.RowKit
set_option maxRecDepth 10000

theorem be_lt (a b : Nat) : True := trivial

section
variable {E : WEnv} {m k : Nat} {y0 y1 y2 y3 y4 y5 y6 y7 y8 y9 y10 y11 y12 y13 y14 y15 y16 y17 y18 y19 y20 y21 y22 y23 y24 y25 y26 y27 y28 y29 y30 y31 y32 y33 y34 y35 y36 y37 y38 y39 : TypeId} {q0 q1 q2 q3 q4 q5 q6 q7 q8 q9 q10 q11 q12 q13 q14 q15 q16 q17 q18 q19 q20 q21 q22 q23 q24 q25 q26 q27 q28 q29 q30 q31 q32 q33 q34 q35 q36 q37 q38 q39 : String} {e0 e1 e2 e3 e4 e5 e6 e7 e8 e9 e10 e11 e12 e13 e14 e15 e16 e17 e18 e19 e20 e21 e22 e23 e24 e25 e26 e27 e28 e29 e30 e31 e32 e33 e34 e35 e36 e37 e38 e39 : Array Edge} {r0 r1 r2 r3 r4 r5 : Nat}

/-! ### Unknown tags -/

theorem wr_tags {sS k0 t1 t2 t3 t4 t5 t6 t7 t8 u1 u2 u3 u4 u5 T T2 idx idx2 sl du off off2 : Nat} {us us2 us3 : Array TypeId} {fs : List Fld} {s : S}
    (hfl : E.fl = true) (hF : fieldB Try.prog T idx off 1 = true) (ho : off = k0 + lsz true fs) (hF2 : fieldB Try.prog T2 idx2 off2 1 = true) (ho2 : off2 = k0 + lsz true fs)
    (hcv : someB Try.prog sl = true ∧ isIntT Try.prog du = true ∧ kindOf Try.prog du = .u32)
    (hE : E.safe m k ∧ WS m E.T k sS) (hfr : ∀ d ∈ [1, t1, t2, t3, t4, t5, t6, t7, t8, u1, u2, u3, u4, u5], Fre E m k d) (hnd : [1, sS, t1, t2, t3, t4, t5, t6, t7, t8, u1, u2, u3, u4, u5].Nodup) :
    WrC E m k (.seq (.region r0 #[⟨some t1, .move (.tmp 1), y0, q0, e0, none⟩, ⟨some t2, .move (.tmp sS), y1, q1, e1, none⟩, ⟨some t3, .nilCheck (.tmp t2), y2, q2, e2, none⟩, ⟨some t4, .fieldAddr T (.tmp t3) idx, y3, q3, e3, none⟩,
        ⟨some t5, .call { callee := .value (.func 140), args := #[.tmp t4], argTypes := us }, y4, q4, e4, none⟩, ⟨some t6, .convert sl du (.tmp t5), y5, q5, e5, none⟩,
        ⟨some t7, .binOp .add du (.const (.int .u32 0)) (.tmp t6) du, y6, q6, e6, none⟩, ⟨some t8, .call { callee := .value (.func 139), args := #[.tmp t1, .tmp t7], argTypes := us2 }, y7, q7, e7, none⟩, ⟨some 1, .assign (.tmp t8), y8, q8, e8, none⟩] false)
      (.region r1 #[⟨some u1, .move (.tmp sS), y9, q9, e9, none⟩, ⟨some u2, .nilCheck (.tmp u1), y10, q10, e10, none⟩, ⟨some u3, .fieldAddr T2 (.tmp u2) idx2, y11, q11, e11, none⟩, ⟨some u4, .move (.tmp 1), y12, q12, e12, none⟩,
        ⟨some u5, .call { callee := .value (.func 141), args := #[.tmp u3, .tmp u4], argTypes := us3 }, y13, q13, e13, none⟩, ⟨some 1, .assign (.tmp u5), y14, q14, e14, none⟩] false)) (PrS E sS k0 fs s) (encTagsPart 0 [] s.tags) := by
  obtain ⟨hE, hS⟩ := hE
  simp only [List.nodup_cons, List.mem_cons, List.not_mem_nil, or_false, not_or, List.nodup_nil, and_true, not_false_eq_true] at hnd; simp only [List.mem_cons, List.not_mem_nil, or_false, forall_eq_or_imp, forall_eq, Fre] at hfr
  intro a w base v bs hwk hv hown hb hpre hlim
  have hN := hwk.1
  obtain ⟨B, p, g1, hat, hB⟩ := hpre
  rw [hfl] at hat
  obtain ⟨mm, cs, Tb, k1, k2, k3, hok⟩ := hat.tags
  rw [show p + k0 + lsz true fs = p + off by omega] at k2
  have ho3 : off2 = off := by omega
  have hml : s.tags.length % 4294967296 < 4294967296 := Nat.mod_lt _ (by omega)
  simp only [encTagsPart, Nat.zero_add, List.nil_append, List.length_append] at hlim ⊢
  refine wp_seq_k fun K hK => ?_
  refine wp_reg ?_
  refine wl_move ?_
  refine wl_move ?_
  simp only [eval_tmp, eval_const, eval_func, get_put_self, get_put_ne, get_put_ne', ne_eq, size_put, hN, hnd, hfr, not_false_eq_true, g1, hv]
  refine wl_nilCheck (p := ⟨B, p, none⟩) (by simp only [eval_tmp, eval_const, eval_func, get_put_self, get_put_ne, get_put_ne', ne_eq, size_put, hN, hnd, hfr, not_false_eq_true]) ?_
  refine wl_fieldAddr (b := B) (o := p) hF (by simp only [eval_tmp, eval_const, eval_func, get_put_self, get_put_ne, get_put_ne', ne_eq, size_put, hN, hnd, hfr, not_false_eq_true]) ?_
  refine wl_call (fun args w => Try.call140 args w) (by simp only [List.map_toArray, List.map_cons, List.map_nil]; simp only [eval_tmp, eval_const, eval_func, get_put_self, get_put_ne, get_put_ne', ne_eq, size_put, hN, hnd, hfr, not_false_eq_true]; exact TagsLen_c k1 k2 k3) ?_
  rintro x w1 ⟨rfl, rfl⟩
  refine wl_conv hcv.1 hcv.2.1 (by simp only [eval_tmp, eval_const, eval_func, get_put_self, get_put_ne, get_put_ne', ne_eq, size_put, hN, hnd, hfr, not_false_eq_true, isI]) ?_
  simp only [eval_tmp, eval_const, eval_func, get_put_self, get_put_ne, get_put_ne', ne_eq, size_put, hN, hnd, hfr, not_false_eq_true, cvt, hcv.2.2, u32_mod]
  refine wl_add (by simp only [eval_tmp, eval_const, eval_func, get_put_self, get_put_ne, get_put_ne', ne_eq, size_put, hN, hnd, hfr, not_false_eq_true, sameK, decide_true]) ?_
  simp only [eval_tmp, eval_const, eval_func, get_put_self, get_put_ne, get_put_ne', ne_eq, size_put, hN, hnd, hfr, not_false_eq_true, add2, Int.zero_add, u32_id (s.tags.length % 4294967296) hml]
  refine wl_callApp (fun args w => Try.call139 args w) (AppendUvarint_c (s.tags.length % 4294967296) hml) (by simp only [List.map_toArray, List.map_cons, List.map_nil]; simp only [eval_tmp, eval_const, eval_func, get_put_self, get_put_ne, get_put_ne', ne_eq, size_put, hN, hnd, hfr, not_false_eq_true]) hown (by omega) hb trivial ?_
  intro v1 w2 happ
  refine wl_assign ?_
  simp only [eval_tmp, eval_const, eval_func, get_put_self, get_put_ne, get_put_ne', ne_eq, size_put, hN, hnd, hfr, not_false_eq_true]
  refine wl_nil (hK _ _ ?_)
  have hc := happ.chgFrom hown
  refine wp_reg ?_
  refine wl_move ?_
  simp only [eval_tmp, eval_const, eval_func, get_put_self, get_put_ne, get_put_ne', ne_eq, size_put, hN, hnd, hfr, not_false_eq_true, g1]
  refine wl_nilCheck (p := ⟨B, p, none⟩) (by simp only [eval_tmp, eval_const, eval_func, get_put_self, get_put_ne, get_put_ne', ne_eq, size_put, hN, hnd, hfr, not_false_eq_true]) ?_
  refine wl_fieldAddr (b := B) (o := p) hF2 (by simp only [eval_tmp, eval_const, eval_func, get_put_self, get_put_ne, get_put_ne', ne_eq, size_put, hN, hnd, hfr, not_false_eq_true]) ?_
  refine wl_move ?_
  simp only [eval_tmp, eval_const, eval_func, get_put_self, get_put_ne, get_put_ne', ne_eq, size_put, hN, hnd, hfr, not_false_eq_true]
  rw [ho3]
  refine wl_call (fun args w => Try.call141 args w) (R := App eB w2 base v1 (bs ++ uvar (s.tags.length % 4294967296) ++ encTagsEach s.tags)) ?_ ?_
  · simp only [List.map_toArray, List.map_cons, List.map_nil]; simp only [eval_tmp, eval_const, eval_func, get_put_self, get_put_ne, get_put_ne', ne_eq, size_put, hN, hnd, hfr, not_false_eq_true]
    exact TagsEach_c hok (k1.chg hc (by omega)) k2 (k3.stay (Stay.of hc fun n hn _ => by omega)) hB happ.own (by rw [List.length_append]; omega) (Nat.le_trans hb hc.size)
  intro v2 w3 happ2
  refine wl_assign ?_
  simp only [eval_tmp, eval_const, eval_func, get_put_self, get_put_ne, get_put_ne', ne_eq, size_put, hN, hnd, hfr, not_false_eq_true]
  refine wl_nil ⟨?_, ?_⟩
  · ((repeat (with_reducible refine Keeps.put ?_ (by simp only [hfr, not_false_eq_true]) _)); with_reducible exact Keeps.refl _ _)
  · simp only [eval_tmp, eval_const, eval_func, get_put_self, get_put_ne, get_put_ne', ne_eq, size_put, hN, hnd, hfr, not_false_eq_true]
    rw [← List.append_assoc]
    exact happ.trans happ2

/-! ### Lists -/

/-- if isFlexible { .. } -/
theorem wr_ifflex {t : Nat} {c : Code} {pre : Act → World → Nat → Prop} {enc : Bs} (hfl : E.fl = true) (h : E.flex = true → WrC E m k c pre enc) (hp : ∀ a w base v, pre a w base → pre (a.put (some t) v) w base)
    (hsl : E.safe m k ∧ Fre E m k t ∧ t ≠ 1) : WrC E m k (.seq (.region r0 #[⟨some t, .move (.tmp E.sF), y0, q0, e0, none⟩] false) (.cond (.tmp t) c .skip)) pre (if E.flex then enc else []) := by
  refine wv_flex hfl (fun hx => ?_) (fun hx => ?_) hp hsl
  · rw [hx, if_pos rfl]; exact h hx
  · rw [hx]; exact wr_skip

/-- Slot x holds a list of n things. -/
def PrL (x : Nat) (oa : Option Addr) (n cap : Nat) (M : World → Nat → Prop) (a : Act) (w : World) (base : Nat) : Prop := get a x = .slice oa n cap ∧ M w base

/-- for i := range v { .. } -/
theorem wr_loop {x u0 u1 u2 u3 u4 m' k' b1 b2 ty ti esz n cap : Nat} {oa : Option Addr} {M : World → Nat → Prop} {body : Code} {encs : Nat → Bs}
    (hty : sliceB Try.prog ty esz = true) (hM : ∀ w w' base, M w base → Chg (fun g => base ≤ g) w w' → base ≤ w.heap.size → M w' base) (hn : n ≤ 1073741824)
    (hbody : ∀ i, i < n → WrC E m' k' body (fun a w base => get a u2 = .int .i64 i ∧ PrL x oa n cap M a w base) (encs i))
    (hE : E.safe m k ∧ WS m E.T k x ∧ m ≤ m' ∧ k ≤ k' ∧ WS m' E.T k' u1 ∧ WS m' E.T k' u2) (hfr : ∀ d ∈ [u0, u1, u2, u3, u4], Fre E m k d) (hnd : [1, x, u0, u1, u2, u3, u4].Nodup) :
    WrC E m k (.seq (.region r0 #[⟨some u0, .move (.tmp x), y0, q0, e0, none⟩, ⟨some u1, .call { callee := .builtin .len, args := #[.tmp u0], argTypes := #[ty] }, y1, q1, e1, none⟩, ⟨some u2, .move (.const (.int .i64 0)), y2, q2, e2, none⟩] false)
      (.block b1 (.loop (.seq (.region r1 #[⟨some u3, .binOp .lss ti (.tmp u2) (.tmp u1) ti, y3, q3, e3, none⟩] false) (.seq (.cond (.tmp u3) .skip (.exit b1)) (.seq (.block b2 body)
        (.region r2 #[⟨some u4, .binOp .add ti (.tmp u2) (.const (.int .i64 1)) ti, y4, q4, e4, none⟩, ⟨some u2, .move (.tmp u4), y5, q5, e5, none⟩] false)))))))
      (PrL x oa n cap M) ((List.range n).flatMap encs) := by
  obtain ⟨hE, hX, hm, hk, hU1, hU2⟩ := hE
  simp only [List.nodup_cons, List.mem_cons, List.not_mem_nil, or_false, not_or, List.nodup_nil, and_true, not_false_eq_true] at hnd; simp only [List.mem_cons, List.not_mem_nil, or_false, forall_eq_or_imp, forall_eq, Fre] at hfr
  intro a w base v bs hwk hv hown hb hpre hlim
  have hN := hwk.1
  obtain ⟨g1, hM0⟩ := hpre
  refine wp_seq_k fun K hK => ?_
  refine wp_reg ?_
  refine wl_move ?_
  simp only [eval_tmp, eval_const, eval_func, get_put_self, get_put_ne, get_put_ne', ne_eq, size_put, hN, hnd, hfr, not_false_eq_true, g1]
  refine wl_len (sliceB.any hty) (by simp only [eval_tmp, eval_const, eval_func, get_put_self, get_put_ne, get_put_ne', ne_eq, size_put, hN, hnd, hfr, not_false_eq_true, isS]) ?_
  simp only [eval_tmp, eval_const, eval_func, get_put_self, get_put_ne, get_put_ne', ne_eq, size_put, hN, hnd, hfr, not_false_eq_true, lenV]
  refine wl_move ?_
  simp only [eval_tmp, eval_const, eval_func, get_put_self, get_put_ne, get_put_ne', ne_eq, size_put, hN, hnd, hfr, not_false_eq_true]
  refine wl_nil (hK _ _ ?_)
  clear hK K
  refine wp_block ?_
  have pre_le : ∀ i, i ≤ n → ((List.range i).flatMap encs).length ≤ ((List.range n).flatMap encs).length := by
    intro i hi
    have e : List.range n = List.range i ++ (List.range (n - i)).map (i + ·) := by
      rw [← List.range_add]; congr 1; omega
    rw [e, List.flatMap_append, List.length_append]; omega
  refine wp_loop (fun a' w' => ∃ i, i ≤ n ∧ get a' u2 = .int .i64 i ∧ get a' u1 = .int .i64 n ∧ Keeps (WS m E.T k) a a' ∧ M w' base ∧ App eB w base v (bs ++ (List.range i).flatMap encs) (get a' 1) w')
    (fun a' _ => n - (intOf (get a' u2)).toNat) ?_ ?_
  · refine ⟨0, Nat.zero_le _, by simp only [eval_tmp, eval_const, eval_func, get_put_self, get_put_ne, get_put_ne', ne_eq, size_put, hN, hnd, hfr, not_false_eq_true]; rfl, by simp only [eval_tmp, eval_const, eval_func, get_put_self, get_put_ne, get_put_ne', ne_eq, size_put, hN, hnd, hfr, not_false_eq_true], by ((repeat (with_reducible refine Keeps.put ?_ (by simp only [hfr, not_false_eq_true]) _)); with_reducible exact Keeps.refl _ _), hM0, ?_⟩
    simp only [eval_tmp, eval_const, eval_func, get_put_self, get_put_ne, get_put_ne', ne_eq, size_put, hN, hnd, hfr, not_false_eq_true, hv]
    simp only [List.range_zero, List.flatMap_nil, List.append_nil]
    exact App.refl hown
  clear hN
  rintro a1 w1 ⟨i, hi, g2, g3, hkp, hM1, happ⟩
  have hN : a1.tmps.size = E.N := hkp.size.trans hwk.1
  have hc1 := happ.chgFrom hown
  refine wp_seq_k fun K hK => ?_
  refine wp_reg ?_
  refine wl_lss (by simp only [eval_tmp, eval_const, eval_func, get_put_self, get_put_ne, get_put_ne', ne_eq, size_put, hN, hnd, hfr, not_false_eq_true, g2, g3, sameK, decide_true]) ?_
  simp only [eval_tmp, eval_const, eval_func, get_put_self, get_put_ne, get_put_ne', ne_eq, size_put, hN, hnd, hfr, not_false_eq_true, g2, g3, cmp2]
  refine wl_nil (hK _ _ ?_)
  clear hK K
  refine wp_seq_k fun K hK => ?_
  by_cases hlt : i < n
  · have e1 : decide ((i : Int) < (n : Int)) = true := decide_eq_true (by omega)
    rw [e1]
    refine wp_cond_true (by simp only [eval_tmp, eval_const, eval_func, get_put_self, get_put_ne, get_put_ne', ne_eq, size_put, hN, hnd, hfr, not_false_eq_true]) ?_
    refine wp_skip (hK _ _ ?_)
    clear hK K
    refine wp_seq_k fun K hK => ?_
    refine wp_block ?_
    have hkp2 : Keeps (WS m E.T k) a (a1.put (some u3) (.bool true)) := hkp.put (by simp only [hfr, not_false_eq_true]) _
    have hl := pre_le (i + 1) hlt
    rw [List.range_succ, List.flatMap_append, List.length_append] at hl
    simp only [List.flatMap_cons, List.flatMap_nil, List.append_nil] at hl
    have hgo := hbody i hlt (a1.put (some u3) (.bool true)) w1 base (get a1 1) _ (hwk.keep hkp2 hE.1 hE.2) (by simp only [eval_tmp, eval_const, eval_func, get_put_self, get_put_ne, get_put_ne', ne_eq, size_put, hN, hnd, hfr, not_false_eq_true]) happ.own (Nat.le_trans hb hc1.size)
      ⟨by simp only [eval_tmp, eval_const, eval_func, get_put_self, get_put_ne, get_put_ne', ne_eq, size_put, hN, hnd, hfr, not_false_eq_true, g2], (hkp2.slot _ hX).trans g1, hM1⟩ (by rw [List.length_append]; omega)
    refine wp_mono hgo ?_
    intro e a2 w2 hq
    cases e <;> try exact hq.elim
    obtain ⟨hk2, happ2⟩ := hq
    refine hK _ _ ?_
    clear hK K
    have hN1 := hN
    clear hN
    have hN : a2.tmps.size = E.N := hk2.size.trans (by rw [size_put]; exact hN1)
    have h2 : get a2 u2 = .int .i64 i := (hk2.slot _ hU2).trans (by rw [get_put_ne' (by simp only [hnd, ne_eq, not_false_eq_true])]; exact g2)
    have h3 : get a2 u1 = .int .i64 n := (hk2.slot _ hU1).trans (by rw [get_put_ne' (by simp only [hnd, ne_eq, not_false_eq_true])]; exact g3)
    refine wp_reg ?_
    refine wl_add (by simp only [eval_tmp, eval_const, eval_func, get_put_self, get_put_ne, get_put_ne', ne_eq, size_put, hN, hnd, hfr, not_false_eq_true, h2, sameK, decide_true]) ?_
    simp only [eval_tmp, eval_const, eval_func, get_put_self, get_put_ne, get_put_ne', ne_eq, size_put, hN, hnd, hfr, not_false_eq_true, h2, add2]
    refine wl_move ?_
    simp only [eval_tmp, eval_const, eval_func, get_put_self, get_put_ne, get_put_ne', ne_eq, size_put, hN, hnd, hfr, not_false_eq_true]
    rw [i64_id ((i : Int) + 1) (by omega)]
    refine wl_nil ?_
    have happ3 := happ.trans happ2
    have hkp3 : Keeps (WS m E.T k) a a2 := hkp2.trans (hk2.mono fun t ht => ht.mono hm hk)
    refine ⟨⟨i + 1, hlt, by simp only [eval_tmp, eval_const, eval_func, get_put_self, get_put_ne, get_put_ne', ne_eq, size_put, hN, hnd, hfr, not_false_eq_true]; rfl, by simp only [eval_tmp, eval_const, eval_func, get_put_self, get_put_ne, get_put_ne', ne_eq, size_put, hN, hnd, hfr, not_false_eq_true, h3], ?_, hM _ _ _ hM1 (happ2.chgFrom happ.own) (Nat.le_trans hb hc1.size), ?_⟩, ?_⟩
    · refine Keeps.put (Keeps.put hkp3 (by simp only [hfr, not_false_eq_true]) _) (by simp only [hfr, not_false_eq_true]) _
    · simp only [eval_tmp, eval_const, eval_func, get_put_self, get_put_ne, get_put_ne', ne_eq, size_put, hN, hnd, hfr, not_false_eq_true]
      rw [List.range_succ, List.flatMap_append, ← List.append_assoc]
      simp only [List.flatMap_cons, List.flatMap_nil, List.append_nil]
      exact happ3
    · simp only [eval_tmp, eval_const, eval_func, get_put_self, get_put_ne, get_put_ne', ne_eq, size_put, hN, hnd, hfr, not_false_eq_true, g2, intOf]
      omega
  · have e1 : decide ((i : Int) < (n : Int)) = false := decide_eq_false (by omega)
    rw [e1]
    have ei : i = n := by omega
    subst ei
    refine wp_cond_false (by simp only [eval_tmp, eval_const, eval_func, get_put_self, get_put_ne, get_put_ne', ne_eq, size_put, hN, hnd, hfr, not_false_eq_true]) ?_
    refine wp_exit ?_
    simp only [Exit.then, Exit.inBlock, if_pos]
    refine ⟨hkp.put (by simp only [hfr, not_false_eq_true]) _, ?_⟩
    simp only [eval_tmp, eval_const, eval_func, get_put_self, get_put_ne, get_put_ne', ne_eq, size_put, hN, hnd, hfr, not_false_eq_true]
    exact happ

end
end Go.Proofs.Ytkhmglikdlgfpaa
