import Derived.Test.YtkhmglikdlgfpaaWrD
/-
AppendTo: each kind of value, each kind of field.
-/
namespace Go.Proofs.Ytkhmglikdlgfpaa
set_option linter.all false
open Go.RowKit
set_option maxRecDepth 10000

section
variable {E : WEnv} {m k : Nat} {y0 y1 y2 y3 y4 y5 y6 y7 y8 y9 y10 y11 y12 y13 y14 y15 y16 y17 y18 y19 y20 y21 y22 y23 y24 y25 y26 y27 y28 y29 y30 y31 y32 y33 y34 y35 y36 y37 y38 y39 : TypeId} {q0 q1 q2 q3 q4 q5 q6 q7 q8 q9 q10 q11 q12 q13 q14 q15 q16 q17 q18 q19 q20 q21 q22 q23 q24 q25 q26 q27 q28 q29 q30 q31 q32 q33 q34 q35 q36 q37 q38 q39 : String} {e0 e1 e2 e3 e4 e5 e6 e7 e8 e9 e10 e11 e12 e13 e14 e15 e16 e17 e18 e19 e20 e21 e22 e23 e24 e25 e26 e27 e28 e29 e30 e31 e32 e33 e34 e35 e36 e37 e38 e39 : Array Edge} {r0 r1 r2 r3 r4 r5 : Nat}
variable {a1 a2 a3 a4 a5 : Int} {of : K} {sub : List Fld} {d : D} {x t1 t2 t3 t4 t5 : Nat} {us : Array TypeId}

/-- dst = f(dst, v) -/
theorem wv_callS {f : Fld} {enc : Bs} {fn : FuncId} (hen : Enters Try.prog fn)
    (hc : ∀ w base val, RepF w (fun g => g < base) E.fl f d [val] → ∃ pr, AppC fn [val] enc pr ∧ pr w) (hsl : E.sl m k [t1, t2, t3] [x] = true) :
    WrC E m k (.region r0 #[⟨some t1, .move (.tmp 1), y0, q0, e0, none⟩, ⟨some t2, .move (.tmp x), y1, q1, e1, none⟩, ⟨some t3, .call { callee := .value (.func fn), args := #[.tmp t1, .tmp t2], argTypes := us }, y2, q2, e2, none⟩, ⟨some 1, .assign (.tmp t3), y3, q3, e3, none⟩] false) (PrF E x f d) enc := by
  obtain ⟨hE, hfr, hrd, hnd⟩ := sl_out hsl
  have h1 := hfr 1 (by simp)
  simp only [List.nodup_cons, List.mem_cons, List.mem_append, List.cons_append, List.nil_append, List.not_mem_nil, or_false, not_or, List.nodup_nil, and_true, not_false_eq_true] at hnd
  simp only [List.mem_cons, List.not_mem_nil, or_false, forall_eq_or_imp, forall_eq] at hfr
  exact wv_call (x := x) hen hc ⟨hfr.2.1, hfr.2.2.1, hfr.2.2.2, (by first | (simp only [hnd, not_false_eq_true, ne_eq]; done) | (intro e; simp [e] at hnd)), (by first | (simp only [hnd, not_false_eq_true, ne_eq]; done) | (intro e; simp [e] at hnd)), (by first | (simp only [hnd, not_false_eq_true, ne_eq]; done) | (intro e; simp [e] at hnd)), h1.1, h1.2⟩

theorem wv_bool (hsl : E.sl m k [t1, t2, t3] [x] = true) :
    WrC E m k (.region r0 #[⟨some t1, .move (.tmp 1), y0, q0, e0, none⟩, ⟨some t2, .move (.tmp x), y1, q1, e1, none⟩, ⟨some t3, .call { callee := .value (.func 172), args := #[.tmp t1, .tmp t2], argTypes := us }, y2, q2, e2, none⟩, ⟨some 1, .assign (.tmp t3), y3, q3, e3, none⟩] false)
      (PrF E x (.mk .bool a1 a2 a3 a4 a5 of sub) d) (encF E.flex E.ver (.mk .bool a1 a2 a3 a4 a5 of sub) d) := by
  refine wv_callS (fun args w => Try.call172 args w) (fun w base val hr => ?_) hsl
  unfold RepF at hr
  dsimp only at hr
  cases d <;> first | exact hr.elim | skip
  simp only [RepK, List.cons.injEq, and_true] at hr
  subst hr
  exact ⟨_, AppendBool_c _, trivial⟩
theorem wv_i8 (hsl : E.sl m k [t1, t2, t3] [x] = true) :
    WrC E m k (.region r0 #[⟨some t1, .move (.tmp 1), y0, q0, e0, none⟩, ⟨some t2, .move (.tmp x), y1, q1, e1, none⟩, ⟨some t3, .call { callee := .value (.func 164), args := #[.tmp t1, .tmp t2], argTypes := us }, y2, q2, e2, none⟩, ⟨some 1, .assign (.tmp t3), y3, q3, e3, none⟩] false)
      (PrF E x (.mk .i8 a1 a2 a3 a4 a5 of sub) d) (encF E.flex E.ver (.mk .i8 a1 a2 a3 a4 a5 of sub) d) := by
  refine wv_callS (fun args w => Try.call164 args w) (fun w base val hr => ?_) hsl
  unfold RepF at hr
  dsimp only at hr
  cases d <;> first | exact hr.elim | skip
  simp only [RepK, List.cons.injEq, and_true] at hr
  subst hr
  exact ⟨_, AppendInt8_c _, trivial⟩
theorem wv_i16 (hsl : E.sl m k [t1, t2, t3] [x] = true) :
    WrC E m k (.region r0 #[⟨some t1, .move (.tmp 1), y0, q0, e0, none⟩, ⟨some t2, .move (.tmp x), y1, q1, e1, none⟩, ⟨some t3, .call { callee := .value (.func 152), args := #[.tmp t1, .tmp t2], argTypes := us }, y2, q2, e2, none⟩, ⟨some 1, .assign (.tmp t3), y3, q3, e3, none⟩] false)
      (PrF E x (.mk .i16 a1 a2 a3 a4 a5 of sub) d) (encF E.flex E.ver (.mk .i16 a1 a2 a3 a4 a5 of sub) d) := by
  refine wv_callS (fun args w => Try.call152 args w) (fun w base val hr => ?_) hsl
  unfold RepF at hr
  dsimp only at hr
  cases d <;> first | exact hr.elim | skip
  simp only [RepK, List.cons.injEq, and_true] at hr
  subst hr
  exact ⟨_, AppendInt16_c _, trivial⟩
theorem wv_i32 (hsl : E.sl m k [t1, t2, t3] [x] = true) :
    WrC E m k (.region r0 #[⟨some t1, .move (.tmp 1), y0, q0, e0, none⟩, ⟨some t2, .move (.tmp x), y1, q1, e1, none⟩, ⟨some t3, .call { callee := .value (.func 151), args := #[.tmp t1, .tmp t2], argTypes := us }, y2, q2, e2, none⟩, ⟨some 1, .assign (.tmp t3), y3, q3, e3, none⟩] false)
      (PrF E x (.mk .i32 a1 a2 a3 a4 a5 of sub) d) (encF E.flex E.ver (.mk .i32 a1 a2 a3 a4 a5 of sub) d) := by
  refine wv_callS (fun args w => Try.call151 args w) (fun w base val hr => ?_) hsl
  unfold RepF at hr
  dsimp only at hr
  cases d <;> first | exact hr.elim | skip
  simp only [RepK, List.cons.injEq, and_true] at hr
  subst hr
  exact ⟨_, AppendInt32_c _, trivial⟩
theorem wv_i64 (hsl : E.sl m k [t1, t2, t3] [x] = true) :
    WrC E m k (.region r0 #[⟨some t1, .move (.tmp 1), y0, q0, e0, none⟩, ⟨some t2, .move (.tmp x), y1, q1, e1, none⟩, ⟨some t3, .call { callee := .value (.func 167), args := #[.tmp t1, .tmp t2], argTypes := us }, y2, q2, e2, none⟩, ⟨some 1, .assign (.tmp t3), y3, q3, e3, none⟩] false)
      (PrF E x (.mk .i64 a1 a2 a3 a4 a5 of sub) d) (encF E.flex E.ver (.mk .i64 a1 a2 a3 a4 a5 of sub) d) := by
  refine wv_callS (fun args w => Try.call167 args w) (fun w base val hr => ?_) hsl
  unfold RepF at hr
  dsimp only at hr
  cases d <;> first | exact hr.elim | skip
  simp only [RepK, List.cons.injEq, and_true] at hr
  subst hr
  exact ⟨_, AppendInt64_c _, trivial⟩
theorem wv_u16 (hsl : E.sl m k [t1, t2, t3] [x] = true) :
    WrC E m k (.region r0 #[⟨some t1, .move (.tmp 1), y0, q0, e0, none⟩, ⟨some t2, .move (.tmp x), y1, q1, e1, none⟩, ⟨some t3, .call { callee := .value (.func 175), args := #[.tmp t1, .tmp t2], argTypes := us }, y2, q2, e2, none⟩, ⟨some 1, .assign (.tmp t3), y3, q3, e3, none⟩] false)
      (PrF E x (.mk .u16 a1 a2 a3 a4 a5 of sub) d) (encF E.flex E.ver (.mk .u16 a1 a2 a3 a4 a5 of sub) d) := by
  refine wv_callS (fun args w => Try.call175 args w) (fun w base val hr => ?_) hsl
  unfold RepF at hr
  dsimp only at hr
  cases d <;> first | exact hr.elim | skip
  simp only [RepK, List.cons.injEq, and_true] at hr
  subst hr
  exact ⟨_, AppendUint16_c _, trivial⟩
theorem wv_f64 (hsl : E.sl m k [t1, t2, t3] [x] = true) :
    WrC E m k (.region r0 #[⟨some t1, .move (.tmp 1), y0, q0, e0, none⟩, ⟨some t2, .move (.tmp x), y1, q1, e1, none⟩, ⟨some t3, .call { callee := .value (.func 179), args := #[.tmp t1, .tmp t2], argTypes := us }, y2, q2, e2, none⟩, ⟨some 1, .assign (.tmp t3), y3, q3, e3, none⟩] false)
      (PrF E x (.mk .f64 a1 a2 a3 a4 a5 of sub) d) (encF E.flex E.ver (.mk .f64 a1 a2 a3 a4 a5 of sub) d) := by
  refine wv_callS (fun args w => Try.call179 args w) (fun w base val hr => ?_) hsl
  unfold RepF at hr
  dsimp only at hr
  cases d <;> first | exact hr.elim | skip
  simp only [RepK, List.cons.injEq, and_true] at hr
  subst hr
  exact ⟨_, AppendFloat64_c _, trivial⟩

/-- if isFlexible { .. } else { .. }, of a value. -/
theorem wv_flexS {t : Nat} {f : Fld} {ca cb : Code} {enc : Bs} (hfl : E.fl = true) (hsl : E.sl m k [t] [x] = true)
    (ha : E.flex = true → WrC E m k ca (PrF E x f d) enc) (hb' : E.flex = false → WrC E m k cb (PrF E x f d) enc) :
    WrC E m k (.seq (.region r0 #[⟨some t, .move (.tmp E.sF), y0, q0, e0, none⟩] false) (.cond (.tmp t) ca cb)) (PrF E x f d) enc := by
  obtain ⟨hE, hfr, hrd, hnd⟩ := sl_out hsl
  simp only [List.nodup_cons, List.mem_cons, List.mem_append, List.cons_append, List.nil_append, List.not_mem_nil, or_false, not_or, List.nodup_nil, and_true, not_false_eq_true] at hnd
  exact wv_flex hfl ha hb' (PrF.put (by first | (simp only [hnd, not_false_eq_true, ne_eq]; done) | (intro e; simp [e] at hnd))) ⟨hE, hfr t (by simp), (by first | (simp only [hnd, not_false_eq_true, ne_eq]; done) | (intro e; simp [e] at hnd))⟩

/-- A text that is never null. -/
theorem encF_text (h : a3 < 0) (l : Bs) : encF E.flex E.ver (.mk .text a1 a2 a3 a4 a5 of sub) (.str l) = encStr E.flex l := by
  unfold encF; dsimp only; rw [if_pos h]; rfl
theorem encF_bytes (l : Bs) : encF E.flex E.ver (.mk .bytes a1 a2 a3 a4 a5 of sub) (.bytes l) = encByt E.flex l := rfl
theorem rep_text {w : World} {G : Nat → Prop} {fl : Bool} {val : Value} (h : a3 < 0) (hr : RepF w G fl (.mk .text a1 a2 a3 a4 a5 of sub) d [val]) : ∃ l, d = .str l ∧ val = .string ⟨l.toArray⟩ := by
  unfold RepF at hr
  dsimp only at hr
  rw [if_pos h] at hr
  cases d <;> first | exact hr.elim | skip
  simp only [RepK, List.cons.injEq, and_true] at hr
  exact ⟨_, rfl, hr⟩

theorem wv_string (h : decide (a3 < 0) = true) (hx : E.flex = false) (hsl : E.sl m k [t1, t2, t3] [x] = true) :
    WrC E m k (.region r0 #[⟨some t1, .move (.tmp 1), y0, q0, e0, none⟩, ⟨some t2, .move (.tmp x), y1, q1, e1, none⟩, ⟨some t3, .call { callee := .value (.func 157), args := #[.tmp t1, .tmp t2], argTypes := us }, y2, q2, e2, none⟩, ⟨some 1, .assign (.tmp t3), y3, q3, e3, none⟩] false)
      (PrF E x (.mk .text a1 a2 a3 a4 a5 of sub) d) (encF E.flex E.ver (.mk .text a1 a2 a3 a4 a5 of sub) d) := by
  refine wv_callS (fun args w => Try.call157 args w) (fun w base val hr => ?_) hsl
  obtain ⟨l, rfl, rfl⟩ := rep_text (of_decide_eq_true h) hr
  refine ⟨fun _ => True, ?_, trivial⟩
  rw [encF_text (of_decide_eq_true h), hx]
  exact AppendString_c l
theorem wv_cstring (h : decide (a3 < 0) = true) (hx : E.flex = true) (hsl : E.sl m k [t1, t2, t3] [x] = true) :
    WrC E m k (.region r0 #[⟨some t1, .move (.tmp 1), y0, q0, e0, none⟩, ⟨some t2, .move (.tmp x), y1, q1, e1, none⟩, ⟨some t3, .call { callee := .value (.func 156), args := #[.tmp t1, .tmp t2], argTypes := us }, y2, q2, e2, none⟩, ⟨some 1, .assign (.tmp t3), y3, q3, e3, none⟩] false)
      (PrF E x (.mk .text a1 a2 a3 a4 a5 of sub) d) (encF E.flex E.ver (.mk .text a1 a2 a3 a4 a5 of sub) d) := by
  refine wv_callS (fun args w => Try.call156 args w) (fun w base val hr => ?_) hsl
  obtain ⟨l, rfl, rfl⟩ := rep_text (of_decide_eq_true h) hr
  refine ⟨fun _ => True, ?_, trivial⟩
  rw [encF_text (of_decide_eq_true h), hx]
  exact AppendCompactString_c l
theorem rep_bytes {w : World} {G : Nat → Prop} {fl : Bool} {val : Value} (hr : RepF w G fl (.mk .bytes a1 a2 a3 a4 a5 of sub) d [val]) : ∃ l oa cap, d = .bytes l ∧ val = .slice oa l.length cap ∧ BytesAt w G oa l := by
  unfold RepF at hr
  dsimp only at hr
  cases d <;> first | exact hr.elim | skip
  simp only [RepK, List.cons.injEq, and_true] at hr
  obtain ⟨oa, cap, h1, h2⟩ := hr
  exact ⟨_, oa, cap, rfl, h1, h2⟩

/-! ### Texts that may be null -/

theorem rep_ntext {w : World} {G : Nat → Prop} {fl : Bool} {val : Value} (h : 0 ≤ a3) (hr : RepF w G fl (.mk .text a1 a2 a3 a4 a5 of sub) d [val]) :
    (d = .nstr none ∧ val = .pointer none) ∨ ∃ l p, d = .nstr (some l) ∧ val = .pointer (some p) ∧ w.cell? p = some (.string ⟨l.toArray⟩) := by
  unfold RepF at hr
  dsimp only at hr
  rw [if_neg (by omega)] at hr
  split at hr
  · simp only [List.cons.injEq, and_true] at hr; exact .inl ⟨rfl, hr⟩
  · obtain ⟨b, cs, T, h1, h2, h3, h4⟩ := hr
    simp only [List.cons.injEq, and_true] at h1
    refine .inr ⟨_, _, rfl, h1, ?_⟩
    rw [h3.cell]; exact h4
  · exact hr.elim
theorem encF_ntext (h : 0 ≤ a3) (hv : a3 ≤ E.ver) (o : Option Bs) : encF E.flex E.ver (.mk .text a1 a2 a3 a4 a5 of sub) (.nstr o) = encNStr E.flex o := by
  unfold encF; dsimp only; rw [if_neg (by omega), if_neg (by omega)]
theorem encF_otext (h : 0 ≤ a3) (hv : ¬ a3 ≤ E.ver) (o : Option Bs) : encF E.flex E.ver (.mk .text a1 a2 a3 a4 a5 of sub) (.nstr o) = encStr E.flex (o.getD []) := by
  unfold encF; dsimp only; rw [if_neg (by omega), if_pos (by omega)]
theorem wv_nstring (h : decide (0 ≤ a3) = true) (hv : a3 ≤ E.ver) (hx : E.flex = false) (hsl : E.sl m k [t1, t2, t3] [x] = true) :
    WrC E m k (.region r0 #[⟨some t1, .move (.tmp 1), y0, q0, e0, none⟩, ⟨some t2, .move (.tmp x), y1, q1, e1, none⟩, ⟨some t3, .call { callee := .value (.func 163), args := #[.tmp t1, .tmp t2], argTypes := us }, y2, q2, e2, none⟩, ⟨some 1, .assign (.tmp t3), y3, q3, e3, none⟩] false)
      (PrF E x (.mk .text a1 a2 a3 a4 a5 of sub) d) (encF E.flex E.ver (.mk .text a1 a2 a3 a4 a5 of sub) d) := by
  refine wv_callS (fun args w => Try.call163 args w) (fun w base val hr => ?_) hsl
  have h' := of_decide_eq_true h
  rcases rep_ntext h' hr with ⟨rfl, rfl⟩ | ⟨l, p, rfl, rfl, hc⟩
  · refine ⟨fun _ => True, ?_, trivial⟩
    rw [encF_ntext h' hv, hx]
    exact AppendNullableString_none
  · refine ⟨fun w => w.cell? p = some (.string ⟨l.toArray⟩), ?_, hc⟩
    rw [encF_ntext h' hv, hx]
    exact AppendNullableString_some p l
theorem wv_cnstring (h : decide (0 ≤ a3) = true) (hv : a3 ≤ E.ver) (hx : E.flex = true) (hsl : E.sl m k [t1, t2, t3] [x] = true) :
    WrC E m k (.region r0 #[⟨some t1, .move (.tmp 1), y0, q0, e0, none⟩, ⟨some t2, .move (.tmp x), y1, q1, e1, none⟩, ⟨some t3, .call { callee := .value (.func 162), args := #[.tmp t1, .tmp t2], argTypes := us }, y2, q2, e2, none⟩, ⟨some 1, .assign (.tmp t3), y3, q3, e3, none⟩] false)
      (PrF E x (.mk .text a1 a2 a3 a4 a5 of sub) d) (encF E.flex E.ver (.mk .text a1 a2 a3 a4 a5 of sub) d) := by
  refine wv_callS (fun args w => Try.call162 args w) (fun w base val hr => ?_) hsl
  have h' := of_decide_eq_true h
  rcases rep_ntext h' hr with ⟨rfl, rfl⟩ | ⟨l, p, rfl, rfl, hc⟩
  · refine ⟨fun _ => True, ?_, trivial⟩
    rw [encF_ntext h' hv, hx]
    exact AppendCompactNullableString_none
  · refine ⟨fun w => w.cell? p = some (.string ⟨l.toArray⟩), ?_, hc⟩
    rw [encF_ntext h' hv, hx]
    exact AppendCompactNullableString_some p l

/-- if version < n { var vv string; if v != nil { vv = *v }; { v := vv; .. } } else { .. } -/
theorem wv_otext {T1 T2 vv y u1 u2 u3 u4 u5 u6 ty tyS ty2 : Nat} {n : Int} {c1 c2 : Code} (hn : (decide (0 ≤ a3) && decide (a3 = n)) = true) (hty : ptrB Try.prog ty = true) (htyS : scalB Try.prog tyS = true)
    (hsl : E.sl m k [T1, T2, vv, y, u1, u2, u3, u4, u5, u6] [x] = true) (hsl2 : E.sl (y + 1) k [] [y] = true) (hm : decide (m ≤ y + 1) = true)
    (h1 : ∀ l, WrC E (y + 1) k c1 (PrF E y (.mk .text a1 a2 (-1) a4 a5 of sub) (.str l)) (encF E.flex E.ver (.mk .text a1 a2 (-1) a4 a5 of sub) (.str l)))
    (h2 : a3 ≤ E.ver → WrC E m k c2 (PrF E x (.mk .text a1 a2 a3 a4 a5 of sub) d) (encF E.flex E.ver (.mk .text a1 a2 a3 a4 a5 of sub) d)) :
    WrC E m k (.seq (.region r0 #[⟨some T1, .move (.tmp E.sV), y0, q0, e0, none⟩, ⟨some T2, .binOp .lss ty2 (.tmp T1) (.const (.int .i16 n)) ty2, y1, q1, e1, none⟩] false)
      (.cond (.tmp T2)
        (.seq (.region r1 #[⟨some vv, .assign (.const (.string ⟨#[]⟩)), y2, q2, e2, none⟩] false)
          (.seq (.seq (.region r2 #[⟨some u1, .move (.tmp x), y3, q3, e3, none⟩, ⟨some u2, .binOp .neq ty (.tmp u1) (.const (.pointer none)) ty, y4, q4, e4, none⟩] false)
              (.cond (.tmp u2) (.region r3 #[⟨some u3, .move (.tmp x), y5, q5, e5, none⟩, ⟨some u4, .nilCheck (.tmp u3), y6, q6, e6, none⟩, ⟨some u5, .load tyS (.tmp u4), y7, q7, e7, none⟩, ⟨some vv, .assign (.tmp u5), y8, q8, e8, none⟩] false) .skip))
            (.seq (.region r4 #[⟨some u6, .move (.tmp vv), y9, q9, e9, none⟩, ⟨some y, .assign (.tmp u6), y10, q10, e10, none⟩] false) c1)))
        c2)) (PrF E x (.mk .text a1 a2 a3 a4 a5 of sub) d) (encF E.flex E.ver (.mk .text a1 a2 a3 a4 a5 of sub) d) := by
  simp only [Bool.and_eq_true, decide_eq_true_eq] at hn
  obtain ⟨hE, hfr, hrd, hnd⟩ := sl_out hsl
  have hsV : ∀ t ∈ [T1, T2, vv, y, u1, u2, u3, u4, u5, u6], t ≠ E.sV := by
    intro t ht e
    have h1 := hE.1
    have := hfr t (List.mem_cons_of_mem _ ht)
    rw [e] at this
    exact this.1 h1
  simp only [List.mem_cons, List.not_mem_nil, or_false, forall_eq_or_imp, forall_eq] at hsV
  simp only [List.nodup_cons, List.mem_cons, List.mem_append, List.cons_append, List.nil_append, List.not_mem_nil, or_false, not_or, List.nodup_nil, and_true, not_false_eq_true] at hnd
  simp only [List.mem_cons, List.not_mem_nil, or_false, forall_eq_or_imp, forall_eq, Fre] at hfr
  intro a w base v bs hwk hv hown hb hpre hlim
  have hN := hwk.1
  obtain ⟨val, g1, hr⟩ := hpre
  refine wp_seq_k fun K hK => ?_
  refine wp_reg ?_
  refine wl_move ?_
  rw [eval_tmp, hwk.2.2.1]
  refine wl_lss (by simp only [eval_tmp, eval_const, eval_func, get_put_self, get_put_ne, get_put_ne', ne_eq, size_put, hN, hnd, hfr, not_false_eq_true, sameK, decide_true]) ?_
  simp only [eval_tmp, eval_const, eval_func, get_put_self, get_put_ne, get_put_ne', ne_eq, size_put, hN, hnd, hfr, not_false_eq_true, cmp2]
  refine wl_nil (hK _ _ ?_)
  clear hK K
  by_cases hc : E.ver < n
  · rw [decide_eq_true hc]
    refine wp_cond_true (by simp only [eval_tmp, eval_const, eval_func, get_put_self, get_put_ne, get_put_ne', ne_eq, size_put, hN, hnd, hfr, not_false_eq_true]) ?_
    refine wp_seq_k fun K hK => ?_
    refine wp_reg ?_
    refine wl_assign ?_
    simp only [eval_tmp, eval_const, eval_func, get_put_self, get_put_ne, get_put_ne', ne_eq, size_put, hN, hnd, hfr, not_false_eq_true]
    refine wl_nil (hK _ _ ?_)
    clear hK K
    refine wp_seq_k fun K hK => ?_
    refine wp_seq_k fun K2 hK2 => ?_
    refine wp_reg ?_
    refine wl_move ?_
    simp only [eval_tmp, eval_const, eval_func, get_put_self, get_put_ne, get_put_ne', ne_eq, size_put, hN, hnd, hfr, not_false_eq_true, g1]
    have hf0 : decide ((-1 : Int) < 0) = true := rfl
    rcases rep_ntext hn.1 hr with ⟨rfl, rfl⟩ | ⟨l, p, rfl, rfl, hcell⟩
    · refine wl_neqNil hty (by simp only [eval_tmp, eval_const, eval_func, get_put_self, get_put_ne, get_put_ne', ne_eq, size_put, hN, hnd, hfr, not_false_eq_true, isP]) ?_
      simp only [eval_tmp, eval_const, eval_func, get_put_self, get_put_ne, get_put_ne', ne_eq, size_put, hN, hnd, hfr, not_false_eq_true, isNilV, notV, Option.isNone_none, Bool.not_true]
      refine wl_nil (hK2 _ _ ?_)
      refine wp_cond_false (by simp only [eval_tmp, eval_const, eval_func, get_put_self, get_put_ne, get_put_ne', ne_eq, size_put, hN, hnd, hfr, not_false_eq_true]) ?_
      refine wp_skip (hK _ _ ?_)
      clear hK K hK2 K2
      refine wp_seq_k fun K hK => ?_
      refine wp_reg ?_
      refine wl_move ?_
      simp only [eval_tmp, eval_const, eval_func, get_put_self, get_put_ne, get_put_ne', ne_eq, size_put, hN, hnd, hfr, not_false_eq_true]
      refine wl_assign ?_
      simp only [eval_tmp, eval_const, eval_func, get_put_self, get_put_ne, get_put_ne', ne_eq, size_put, hN, hnd, hfr, not_false_eq_true]
      refine wl_nil (hK _ _ ?_)
      have e : encF E.flex E.ver (.mk .text a1 a2 a3 a4 a5 of sub) (.nstr none) = encF E.flex E.ver (.mk .text a1 a2 (-1) a4 a5 of sub) (.str []) := by
        rw [encF_otext hn.1 (by omega), encF_text (by decide)]; rfl
      rw [e] at hlim ⊢
      refine wr_go (of_decide_eq_true hm) (Nat.le_refl _) hE (h1 []) hwk hv hown hb hlim (by ((repeat (with_reducible refine Keeps.put ?_ (by simp only [hfr, not_false_eq_true]) _)); with_reducible exact Keeps.refl _ _)) (by simp only [eval_tmp, eval_const, eval_func, get_put_self, get_put_ne, get_put_ne', ne_eq, size_put, hN, hnd, hfr, not_false_eq_true]) ⟨_, by simp only [eval_tmp, eval_const, eval_func, get_put_self, get_put_ne, get_put_ne', ne_eq, size_put, hN, hnd, hfr, not_false_eq_true]; rfl, ?_⟩
      unfold RepF; dsimp only; rw [if_pos (by decide)]; rfl
    · refine wl_neqNil hty (by simp only [eval_tmp, eval_const, eval_func, get_put_self, get_put_ne, get_put_ne', ne_eq, size_put, hN, hnd, hfr, not_false_eq_true, isP]) ?_
      simp only [eval_tmp, eval_const, eval_func, get_put_self, get_put_ne, get_put_ne', ne_eq, size_put, hN, hnd, hfr, not_false_eq_true, isNilV, notV, Option.isNone_some, Bool.not_false]
      refine wl_nil (hK2 _ _ ?_)
      refine wp_cond_true (by simp only [eval_tmp, eval_const, eval_func, get_put_self, get_put_ne, get_put_ne', ne_eq, size_put, hN, hnd, hfr, not_false_eq_true]) ?_
      refine wp_reg ?_
      refine wl_move ?_
      simp only [eval_tmp, eval_const, eval_func, get_put_self, get_put_ne, get_put_ne', ne_eq, size_put, hN, hnd, hfr, not_false_eq_true, g1]
      refine wl_nilCheck (p := p) (by simp only [eval_tmp, eval_const, eval_func, get_put_self, get_put_ne, get_put_ne', ne_eq, size_put, hN, hnd, hfr, not_false_eq_true]) ?_
      refine wl_loadC htyS (by simp only [eval_tmp, eval_const, eval_func, get_put_self, get_put_ne, get_put_ne', ne_eq, size_put, hN, hnd, hfr, not_false_eq_true]) hcell ?_
      refine wl_assign ?_
      simp only [eval_tmp, eval_const, eval_func, get_put_self, get_put_ne, get_put_ne', ne_eq, size_put, hN, hnd, hfr, not_false_eq_true]
      refine wl_nil (hK _ _ ?_)
      clear hK K hK2 K2
      refine wp_seq_k fun K hK => ?_
      refine wp_reg ?_
      refine wl_move ?_
      simp only [eval_tmp, eval_const, eval_func, get_put_self, get_put_ne, get_put_ne', ne_eq, size_put, hN, hnd, hfr, not_false_eq_true]
      refine wl_assign ?_
      simp only [eval_tmp, eval_const, eval_func, get_put_self, get_put_ne, get_put_ne', ne_eq, size_put, hN, hnd, hfr, not_false_eq_true]
      refine wl_nil (hK _ _ ?_)
      have e : encF E.flex E.ver (.mk .text a1 a2 a3 a4 a5 of sub) (.nstr (some l)) = encF E.flex E.ver (.mk .text a1 a2 (-1) a4 a5 of sub) (.str l) := by
        rw [encF_otext hn.1 (by omega), encF_text (by decide)]; rfl
      rw [e] at hlim ⊢
      refine wr_go (of_decide_eq_true hm) (Nat.le_refl _) hE (h1 l) hwk hv hown hb hlim (by ((repeat (with_reducible refine Keeps.put ?_ (by simp only [hfr, not_false_eq_true]) _)); with_reducible exact Keeps.refl _ _)) (by simp only [eval_tmp, eval_const, eval_func, get_put_self, get_put_ne, get_put_ne', ne_eq, size_put, hN, hnd, hfr, not_false_eq_true]) ⟨_, by simp only [eval_tmp, eval_const, eval_func, get_put_self, get_put_ne, get_put_ne', ne_eq, size_put, hN, hnd, hfr, not_false_eq_true]; rfl, ?_⟩
      unfold RepF; dsimp only; rw [if_pos (by decide)]; rfl
  · rw [decide_eq_false hc]
    refine wp_cond_false (by simp only [eval_tmp, eval_const, eval_func, get_put_self, get_put_ne, get_put_ne', ne_eq, size_put, hN, hnd, hfr, not_false_eq_true]) ?_
    exact wr_go (Nat.le_refl _) (Nat.le_refl _) hE (h2 (by omega)) hwk hv hown hb hlim (by ((repeat (with_reducible refine Keeps.put ?_ (by simp only [hfr, not_false_eq_true]) _)); with_reducible exact Keeps.refl _ _)) (by simp only [eval_tmp, eval_const, eval_func, get_put_self, get_put_ne, get_put_ne', ne_eq, size_put, hN, hnd, hfr, not_false_eq_true]) ⟨val, by simp only [eval_tmp, eval_const, eval_func, get_put_self, get_put_ne, get_put_ne', ne_eq, size_put, hN, hnd, hfr, not_false_eq_true, g1], hr⟩

/-! ### v := s.F -/

/-- v := s.F, then what writes v. -/
theorem wf_load {sS k0 i T idx ty : Nat} {fs : List Fld} {s : S} {f : Fld} {c : Code} {enc : Bs}
    (hf : fs[i]? = some f) (hd : s.ds[i]? = some d) (hB : (fsz E.fl f == 1 && fieldB Try.prog T idx (k0 + foff E.fl fs i) 1 && scalB Try.prog ty) = true)
    (hsl : E.sl m k [t1, t2, t3, t4, x] [sS] = true) (hm : decide (m ≤ x + 1) = true) (h : WrC E (x + 1) k c (PrF E x f d) enc) :
    WrC E m k (.seq (.region r0 #[⟨some t1, .move (.tmp sS), y0, q0, e0, none⟩, ⟨some t2, .nilCheck (.tmp t1), y1, q1, e1, none⟩, ⟨some t3, .fieldAddr T (.tmp t2) idx, y2, q2, e2, none⟩, ⟨some t4, .load ty (.tmp t3), y3, q3, e3, none⟩, ⟨some x, .assign (.tmp t4), y4, q4, e4, none⟩] false) c) (PrS E sS k0 fs s) enc := by
  simp only [Bool.and_eq_true, beq_iff_eq] at hB
  obtain ⟨⟨b1, b2⟩, b4⟩ := hB
  obtain ⟨hE, hfr, hrd, hnd⟩ := sl_out hsl
  simp only [List.nodup_cons, List.mem_cons, List.mem_append, List.cons_append, List.nil_append, List.not_mem_nil, or_false, not_or, List.nodup_nil, and_true, not_false_eq_true] at hnd
  simp only [List.mem_cons, List.not_mem_nil, or_false, forall_eq_or_imp, forall_eq] at hfr
  exact wr_field hf hd b1 b2 rfl b4 ⟨hE, of_decide_eq_true hm, Nat.le_refl _, hfr.2.1, hfr.2.2.1, hfr.2.2.2.1, hfr.2.2.2.2.1, hfr.2.2.2.2.2, (by first | (simp only [hnd, not_false_eq_true, ne_eq]; done) | (intro e; simp [e] at hnd)), (by first | (simp only [hnd, not_false_eq_true, ne_eq]; done) | (intro e; simp [e] at hnd)), (by first | (simp only [hnd, not_false_eq_true, ne_eq]; done) | (intro e; simp [e] at hnd)), (by first | (simp only [hnd, not_false_eq_true, ne_eq]; done) | (intro e; simp [e] at hnd)), (by first | (simp only [hnd, not_false_eq_true, ne_eq]; done) | (intro e; simp [e] at hnd))⟩ h

end
end Go.Proofs.Ytkhmglikdlgfpaa
