import Derived.Test.YtkhmglikdlgfpaaWrE
/-
AppendTo: lists, parts, the tail of unknown tags, the function as a whole.
-/
namespace Go.Proofs.Ytkhmglikdlgfpaa
set_option linter.all false
open Go.RowKit
set_option maxRecDepth 10000

/-- What stands behind the fields of a part. -/
def tagsEnc (E : WEnv) (fs : List Fld) (s : S) : Bs := if E.flex then encTagsPart (encKnown E.flex E.ver fs s.ds).1 (encKnown E.flex E.ver fs s.ds).2 s.tags else []
def partEnc (E : WEnv) (fs : List Fld) (s : S) : Bs := fTail E fs s 0 (tagsEnc E fs s)
theorem partEnc_eq (E : WEnv) (fs : List Fld) (s : S) : partEnc E fs s = encPart E.flex E.ver fs s := by
  unfold partEnc fTail encPart tagsEnc; simp only [List.drop_zero]
/-- How many, ahead of a list. -/
def lenEnc (E : WEnv) (nl : Int) (nil : Bool) (n : Nat) : Bs := if nl < 0 ∨ E.ver < nl then encLen E.flex n else encNLen E.flex nil n

theorem encKnown_none (flex : Bool) (ver : Int) : ∀ (fs : List Fld) (ds : List D), anyTag fs = false → encKnown flex ver fs ds = (0, [])
  | [], _, _ => by simp [encKnown]
  | f :: r, [], _ => by simp [encKnown]
  | f :: r, d :: ds, h => by
    simp only [anyTag, Bool.or_eq_false_iff, decide_eq_false_iff_not] at h
    rw [encKnown, encKnown_none flex ver r ds h.2]
    dsimp only
    rw [if_neg (fun x => h.1 x.1)]

section
variable {E : WEnv} {m k : Nat} {y0 y1 y2 y3 y4 y5 y6 y7 y8 y9 y10 y11 y12 y13 y14 y15 y16 y17 y18 y19 y20 y21 y22 y23 y24 y25 y26 y27 y28 y29 y30 y31 y32 y33 y34 y35 y36 y37 y38 y39 : TypeId} {q0 q1 q2 q3 q4 q5 q6 q7 q8 q9 q10 q11 q12 q13 q14 q15 q16 q17 q18 q19 q20 q21 q22 q23 q24 q25 q26 q27 q28 q29 q30 q31 q32 q33 q34 q35 q36 q37 q38 q39 : String} {e0 e1 e2 e3 e4 e5 e6 e7 e8 e9 e10 e11 e12 e13 e14 e15 e16 e17 e18 e19 e20 e21 e22 e23 e24 e25 e26 e27 e28 e29 e30 e31 e32 e33 e34 e35 e36 e37 e38 e39 : Array Edge} {r0 r1 r2 r3 r4 r5 : Nat}
variable {a1 a2 a3 a4 a5 : Int} {of : K} {sub : List Fld} {d : D} {x t1 t2 t3 t4 t5 t6 : Nat} {us : Array TypeId}

theorem encF_listS (l : List D) (nil : Bool) : encF E.flex E.ver (.mk .list a1 a2 a3 a4 a5 .struct sub) (.arr nil l) = lenEnc E a3 nil l.length ++ (List.range l.length).flatMap (encAtS (partEnc E sub) l) := by
  rw [flat_encAtS]
  unfold encF lenEnc
  dsimp only
  congr 2
theorem encF_listK (h1 : of ≠ .struct) (h2 : of ≠ .list) (l : List D) (nil : Bool) : encF E.flex E.ver (.mk .list a1 a2 a3 a4 a5 of sub) (.arr nil l) = lenEnc E a3 nil l.length ++ (List.range l.length).flatMap (encAtK (encF E.flex E.ver (kf of)) l) := by
  rw [flat_encAtK]
  have e : encF E.flex E.ver (kf of) = encK of E.flex := by
    funext d
    unfold kf encF
    cases of <;> first | rfl | exact absurd rfl h1 | exact absurd rfl h2
  rw [e]
  unfold encF lenEnc
  dsimp only
  congr 1
  cases of <;> first | exact absurd rfl h1 | exact absurd rfl h2 | rfl

/-! ### How many -/

theorem wn_flex {t : Nat} {oa : Option Addr} {n cap : Nat} {M : World → Nat → Prop} {ca cb : Code} {enc : Bs} (hfl : E.fl = true) (hsl : E.sl m k [t] [x] = true)
    (ha : E.flex = true → WrC E m k ca (PrL x oa n cap M) enc) (hb' : E.flex = false → WrC E m k cb (PrL x oa n cap M) enc) :
    WrC E m k (.seq (.region r0 #[⟨some t, .move (.tmp E.sF), y0, q0, e0, none⟩] false) (.cond (.tmp t) ca cb)) (PrL x oa n cap M) enc := by
  obtain ⟨hE, hfr, hrd, hnd⟩ := sl_out hsl
  simp only [List.nodup_cons, List.mem_cons, List.mem_append, List.cons_append, List.nil_append, List.not_mem_nil, or_false, not_or, List.nodup_nil, and_true, not_false_eq_true] at hnd
  exact wv_flex hfl ha hb' (PrL.put (by first | (simp only [hnd, not_false_eq_true, ne_eq]; done) | (intro e; simp [e] at hnd))) ⟨hE, hfr t (by simp), (by first | (simp only [hnd, not_false_eq_true, ne_eq]; done) | (intro e; simp [e] at hnd))⟩
theorem wn_ver {u : Nat} {oa : Option Addr} {n cap : Nat} {M : World → Nat → Prop} {ca cb : Code} {enc : Bs} {z : Int} (hsl : E.sl m k [t1, t2] [x] = true)
    (ha : z ≤ E.ver → WrC E m k ca (PrL x oa n cap M) enc) (hb' : ¬ z ≤ E.ver → WrC E m k cb (PrL x oa n cap M) enc) :
    WrC E m k (.seq (.region r0 #[⟨some t1, .move (.tmp E.sV), y0, q0, e0, none⟩, ⟨some t2, .binOp .geq u (.tmp t1) (.const (.int .i16 z)) u, y1, q1, e1, none⟩] false) (.cond (.tmp t2) ca cb)) (PrL x oa n cap M) enc := by
  obtain ⟨hE, hfr, hrd, hnd⟩ := sl_out hsl
  simp only [List.nodup_cons, List.mem_cons, List.mem_append, List.cons_append, List.nil_append, List.not_mem_nil, or_false, not_or, List.nodup_nil, and_true, not_false_eq_true] at hnd
  exact wv_ver ha hb' (PrL.put (by first | (simp only [hnd, not_false_eq_true, ne_eq]; done) | (intro e; simp [e] at hnd))) (PrL.put (by first | (simp only [hnd, not_false_eq_true, ne_eq]; done) | (intro e; simp [e] at hnd))) ⟨hE, hfr t1 (by simp), hfr t2 (by simp), (by first | (simp only [hnd, not_false_eq_true, ne_eq]; done) | (intro e; simp [e] at hnd)), (by first | (simp only [hnd, not_false_eq_true, ne_eq]; done) | (intro e; simp [e] at hnd))⟩
theorem sl_fr {wr rd : List Nat} (h : E.sl m k wr rd = true) : ∀ d ∈ 1 :: wr, Fre E m k d := (sl_out h).2.1
theorem lenEnc_plain {nil : Bool} {n : Nat} (h : a3 < 0 ∨ E.ver < a3) : lenEnc E a3 nil n = encLen E.flex n := by unfold lenEnc; rw [if_pos h]
theorem lenEnc_null {nil : Bool} {n : Nat} (h : 0 ≤ a3) (h2 : a3 ≤ E.ver) : lenEnc E a3 nil n = encNLen E.flex nil n := by unfold lenEnc; rw [if_neg (by omega)]

theorem wn_call {ty n cap : Nat} {oa : Option Addr} {M : World → Nat → Prop} {enc : Bs} {fn : FuncId} (hty : slB Try.prog ty = true) (hen : Enters Try.prog fn)
    (hc : AppC fn [.int .i64 n] enc (fun _ => True)) (hsl : E.sl m k [t1, t2, t3, t4] [x] = true) :
    WrC E m k (.region r0 #[⟨some t1, .move (.tmp 1), y0, q0, e0, none⟩, ⟨some t2, .move (.tmp x), y1, q1, e1, none⟩, ⟨some t3, .call { callee := .builtin .len, args := #[.tmp t2], argTypes := #[ty] }, y2, q2, e2, none⟩, ⟨some t4, .call { callee := .value (.func fn), args := #[.tmp t1, .tmp t3], argTypes := us }, y3, q3, e3, none⟩, ⟨some 1, .assign (.tmp t4), y4, q4, e4, none⟩] false)
      (PrL x oa n cap M) enc := by
  obtain ⟨hE, hfr, hrd, hnd⟩ := sl_out hsl
  exact wl_alen hty hen hc hfr (by simpa using hnd)
theorem wn_ncall {ty n cap i j : Nat} {oa : Option Addr} {M : World → Nat → Prop} {enc : Bs} {fn : FuncId} (hty : slB Try.prog ty = true) (hen : Enters Try.prog fn)
    (hc : AppC fn [.int .i64 n, .bool oa.isNone] enc (fun _ => True)) (hsl : E.sl m k [t1, t2, t3, t4, t5, t6] [x] = true) :
    WrC E m k (.region r0 #[⟨some t1, .move (.tmp 1), y0, q0, e0, none⟩, ⟨some t2, .move (.tmp x), y1, q1, e1, none⟩, ⟨some t3, .call { callee := .builtin .len, args := #[.tmp t2], argTypes := #[ty] }, y2, q2, e2, none⟩, ⟨some t4, .move (.tmp x), y3, q3, e3, none⟩,
      ⟨some t5, .binOp .eql ty (.tmp t4) (.const (.slice none i j)) ty, y4, q4, e4, none⟩, ⟨some t6, .call { callee := .value (.func fn), args := #[.tmp t1, .tmp t3, .tmp t5], argTypes := us }, y5, q5, e5, none⟩, ⟨some 1, .assign (.tmp t6), y6, q6, e6, none⟩] false)
      (PrL x oa n cap M) enc := by
  obtain ⟨hE, hfr, hrd, hnd⟩ := sl_out hsl
  exact wl_anlen hty hen hc hfr (by simpa using hnd)

theorem wn_plain {ty n cap : Nat} {oa : Option Addr} {M : World → Nat → Prop} (h : a3 < 0 ∨ E.ver < a3) (hx : E.flex = false) (hty : slB Try.prog ty = true) (hsl : E.sl m k [t1, t2, t3, t4] [x] = true) :
    WrC E m k (.region r0 #[⟨some t1, .move (.tmp 1), y0, q0, e0, none⟩, ⟨some t2, .move (.tmp x), y1, q1, e1, none⟩, ⟨some t3, .call { callee := .builtin .len, args := #[.tmp t2], argTypes := #[ty] }, y2, q2, e2, none⟩, ⟨some t4, .call { callee := .value (.func 155), args := #[.tmp t1, .tmp t3], argTypes := us }, y3, q3, e3, none⟩, ⟨some 1, .assign (.tmp t4), y4, q4, e4, none⟩] false)
      (PrL x oa n cap M) (lenEnc E a3 oa.isNone n) := by
  rw [lenEnc_plain h, hx]
  exact wn_call hty (fun args w => Try.call155 args w) (AppendArrayLen_c n) hsl
theorem wn_cplain {ty n cap : Nat} {oa : Option Addr} {M : World → Nat → Prop} (h : a3 < 0 ∨ E.ver < a3) (hx : E.flex = true) (hty : slB Try.prog ty = true) (hsl : E.sl m k [t1, t2, t3, t4] [x] = true) :
    WrC E m k (.region r0 #[⟨some t1, .move (.tmp 1), y0, q0, e0, none⟩, ⟨some t2, .move (.tmp x), y1, q1, e1, none⟩, ⟨some t3, .call { callee := .builtin .len, args := #[.tmp t2], argTypes := #[ty] }, y2, q2, e2, none⟩, ⟨some t4, .call { callee := .value (.func 154), args := #[.tmp t1, .tmp t3], argTypes := us }, y3, q3, e3, none⟩, ⟨some 1, .assign (.tmp t4), y4, q4, e4, none⟩] false)
      (PrL x oa n cap M) (lenEnc E a3 oa.isNone n) := by
  rw [lenEnc_plain h, hx]
  exact wn_call hty (fun args w => Try.call154 args w) (AppendCompactArrayLen_c n) hsl
theorem wn_null {ty n cap i j : Nat} {oa : Option Addr} {M : World → Nat → Prop} (h : 0 ≤ a3) (h2 : a3 ≤ E.ver) (hx : E.flex = false) (hty : slB Try.prog ty = true) (hsl : E.sl m k [t1, t2, t3, t4, t5, t6] [x] = true) :
    WrC E m k (.region r0 #[⟨some t1, .move (.tmp 1), y0, q0, e0, none⟩, ⟨some t2, .move (.tmp x), y1, q1, e1, none⟩, ⟨some t3, .call { callee := .builtin .len, args := #[.tmp t2], argTypes := #[ty] }, y2, q2, e2, none⟩, ⟨some t4, .move (.tmp x), y3, q3, e3, none⟩,
      ⟨some t5, .binOp .eql ty (.tmp t4) (.const (.slice none i j)) ty, y4, q4, e4, none⟩, ⟨some t6, .call { callee := .value (.func 171), args := #[.tmp t1, .tmp t3, .tmp t5], argTypes := us }, y5, q5, e5, none⟩, ⟨some 1, .assign (.tmp t6), y6, q6, e6, none⟩] false)
      (PrL x oa n cap M) (lenEnc E a3 oa.isNone n) := by
  rw [lenEnc_null h h2, hx]
  exact wn_ncall hty (fun args w => Try.call171 args w) (AppendNullableArrayLen_c n _) hsl
theorem wn_cnull {ty n cap i j : Nat} {oa : Option Addr} {M : World → Nat → Prop} (h : 0 ≤ a3) (h2 : a3 ≤ E.ver) (hx : E.flex = true) (hty : slB Try.prog ty = true) (hsl : E.sl m k [t1, t2, t3, t4, t5, t6] [x] = true) :
    WrC E m k (.region r0 #[⟨some t1, .move (.tmp 1), y0, q0, e0, none⟩, ⟨some t2, .move (.tmp x), y1, q1, e1, none⟩, ⟨some t3, .call { callee := .builtin .len, args := #[.tmp t2], argTypes := #[ty] }, y2, q2, e2, none⟩, ⟨some t4, .move (.tmp x), y3, q3, e3, none⟩,
      ⟨some t5, .binOp .eql ty (.tmp t4) (.const (.slice none i j)) ty, y4, q4, e4, none⟩, ⟨some t6, .call { callee := .value (.func 170), args := #[.tmp t1, .tmp t3, .tmp t5], argTypes := us }, y5, q5, e5, none⟩, ⟨some 1, .assign (.tmp t6), y6, q6, e6, none⟩] false)
      (PrL x oa n cap M) (lenEnc E a3 oa.isNone n) := by
  rw [lenEnc_null h h2, hx]
  exact wn_ncall hty (fun args w => Try.call170 args w) (AppendCompactNullableArrayLen_c n _) hsl

/-! ### Lists -/

theorem rep_list {w : World} {G : Nat → Prop} {fl : Bool} {val : Value} (hr : RepF w G fl (.mk .list a1 a2 a3 a4 a5 of sub) d [val]) : ∃ nil l, d = .arr nil l := by
  unfold RepF at hr
  dsimp only at hr
  cases d <;> first | exact hr.elim | exact ⟨_, _, rfl⟩

/-- A list of parts. -/
theorem wv_listS {u0 u1 u2 u3 u4 ty ti b1 b2 i y c1 c2 c3 c4 : Nat} {cl body : Code}
    (hl : ∀ (oa : Option Addr) (n cap : Nat) (M : World → Nat → Prop), WrC E m k cl (PrL x oa n cap M) (lenEnc E a3 oa.isNone n))
    (hty : sliceB Try.prog ty (ssz E.fl sub) = true) (hsl : E.sl m k [u0, u1, u2, u3, u4] [x] = true) (hsl2 : E.sl m (u2 + 1) [c1, i, c2, c3, c4, y] [x, u1, u2] = true) (hm : (decide (m ≤ y + 1) && decide (k ≤ u2 + 1)) = true)
    (hb : ∀ s : S, WrC E (y + 1) (u2 + 1) body (PrS E y 0 sub s) (partEnc E sub s)) :
    WrC E m k (.seq cl (.seq (.region r0 #[⟨some u0, .move (.tmp x), y0, q0, e0, none⟩, ⟨some u1, .call { callee := .builtin .len, args := #[.tmp u0], argTypes := #[ty] }, y1, q1, e1, none⟩, ⟨some u2, .move (.const (.int .i64 0)), y2, q2, e2, none⟩] false)
      (.block b1 (.loop (.seq (.region r1 #[⟨some u3, .binOp .lss ti (.tmp u2) (.tmp u1) ti, y3, q3, e3, none⟩] false) (.seq (.cond (.tmp u3) .skip (.exit b1)) (.seq (.block b2
          (.seq (.region r2 #[⟨some c1, .move (.tmp u2), y4, q4, e4, none⟩, ⟨some i, .assign (.tmp c1), y5, q5, e5, none⟩] false) (.seq (.region r3 #[⟨some c2, .move (.tmp x), y6, q6, e6, none⟩, ⟨some c3, .move (.tmp i), y7, q7, e7, none⟩, ⟨some c4, .indexAddr ty (.tmp c2) (.tmp c3), y8, q8, e8, none⟩, ⟨some y, .assign (.tmp c4), y9, q9, e9, none⟩] false) body)))
        (.region r4 #[⟨some u4, .binOp .add ti (.tmp u2) (.const (.int .i64 1)) ti, y10, q10, e10, none⟩, ⟨some u2, .move (.tmp u4), y11, q11, e11, none⟩] false))))))))
      (PrF E x (.mk .list a1 a2 a3 a4 a5 .struct sub) d) (encF E.flex E.ver (.mk .list a1 a2 a3 a4 a5 .struct sub) d) := by
  simp only [Bool.and_eq_true, decide_eq_true_eq] at hm
  obtain ⟨hE, hfr, hrd, hnd⟩ := sl_out hsl
  obtain ⟨hE2, hfr2, hrd2, hnd2⟩ := sl_out hsl2
  intro a w base v bs hwk hv hown hbb hpre hlim
  obtain ⟨val, g1, hr⟩ := hpre
  obtain ⟨nil, l, rfl⟩ := rep_list hr
  rw [encF_listS] at hlim ⊢
  refine wr_list (fun oa cap hn => by subst hn; exact hl oa l.length cap _) (fun oa cap hn => ?_) ⟨hE, hrd x (by simp)⟩ a w base v bs hwk hv hown hbb ⟨val, g1, hr⟩ hlim
  refine wr_loop (m' := m) (k' := u2 + 1) hty ML.stable hn (fun j hj => ?_) ⟨hE, hrd x (by simp), Nat.le_refl _, hm.2, hrd2 u1 (by simp), hrd2 u2 (by simp)⟩ (fun d hd => hfr d (List.mem_cons_of_mem _ hd)) (by simpa using hnd)
  have hnd3 : [1, x, u2, c1, i, c2, c3, c4, y].Nodup := by
    refine List.Nodup.sublist ?_ hnd2
    exact .cons_cons _ (.cons_cons _ (.cons _ (List.Sublist.refl _)))
  exact wr_elemS hty rfl rfl hj (fun s _ => hb s) ⟨hE2, hm.1, Nat.le_refl _⟩ (fun d hd => hfr2 d (List.mem_cons_of_mem _ hd)) hnd3
/-- A list of values of one cell. -/
theorem wv_listK {u0 u1 u2 u3 u4 ty ty2 ti b1 b2 i y c1 c2 c3 c4 c5 : Nat} {cl body : Code}
    (hl : ∀ (oa : Option Addr) (n cap : Nat) (M : World → Nat → Prop), WrC E m k cl (PrL x oa n cap M) (lenEnc E a3 oa.isNone n))
    (hof : (decide (of ≠ .struct) && decide (of ≠ .list) && decide (ksz of = 1) && sliceB Try.prog ty 1 && scalB Try.prog ty2) = true)
    (hsl : E.sl m k [u0, u1, u2, u3, u4] [x] = true) (hsl2 : E.sl m (u2 + 1) [c1, i, c2, c3, c4, c5, y] [x, u1, u2] = true) (hm : (decide (m ≤ y + 1) && decide (k ≤ u2 + 1)) = true)
    (hb : ∀ d : D, WrC E (y + 1) (u2 + 1) body (PrF E y (kf of) d) (encF E.flex E.ver (kf of) d)) :
    WrC E m k (.seq cl (.seq (.region r0 #[⟨some u0, .move (.tmp x), y0, q0, e0, none⟩, ⟨some u1, .call { callee := .builtin .len, args := #[.tmp u0], argTypes := #[ty] }, y1, q1, e1, none⟩, ⟨some u2, .move (.const (.int .i64 0)), y2, q2, e2, none⟩] false)
      (.block b1 (.loop (.seq (.region r1 #[⟨some u3, .binOp .lss ti (.tmp u2) (.tmp u1) ti, y3, q3, e3, none⟩] false) (.seq (.cond (.tmp u3) .skip (.exit b1)) (.seq (.block b2
          (.seq (.region r2 #[⟨some c1, .move (.tmp u2), y4, q4, e4, none⟩, ⟨some i, .assign (.tmp c1), y5, q5, e5, none⟩] false) (.seq (.region r3 #[⟨some c2, .move (.tmp x), y6, q6, e6, none⟩, ⟨some c3, .move (.tmp i), y7, q7, e7, none⟩, ⟨some c4, .indexAddr ty (.tmp c2) (.tmp c3), y8, q8, e8, none⟩, ⟨some c5, .load ty2 (.tmp c4), y9, q9, e9, none⟩, ⟨some y, .assign (.tmp c5), y10, q10, e10, none⟩] false) body)))
        (.region r4 #[⟨some u4, .binOp .add ti (.tmp u2) (.const (.int .i64 1)) ti, y11, q11, e11, none⟩, ⟨some u2, .move (.tmp u4), y12, q12, e12, none⟩] false))))))))
      (PrF E x (.mk .list a1 a2 a3 a4 a5 of sub) d) (encF E.flex E.ver (.mk .list a1 a2 a3 a4 a5 of sub) d) := by
  simp only [Bool.and_eq_true, decide_eq_true_eq] at hm hof
  obtain ⟨⟨⟨⟨o1, o2⟩, o3⟩, o4⟩, o5⟩ := hof
  obtain ⟨hE, hfr, hrd, hnd⟩ := sl_out hsl
  obtain ⟨hE2, hfr2, hrd2, hnd2⟩ := sl_out hsl2
  intro a w base v bs hwk hv hown hbb hpre hlim
  obtain ⟨val, g1, hr⟩ := hpre
  obtain ⟨nil, l, rfl⟩ := rep_list hr
  rw [encF_listK o1 o2] at hlim ⊢
  refine wr_list (fun oa cap hn => by subst hn; exact hl oa l.length cap _) (fun oa cap hn => ?_) ⟨hE, hrd x (by simp)⟩ a w base v bs hwk hv hown hbb ⟨val, g1, hr⟩ hlim
  refine wr_loop (m' := m) (k' := u2 + 1) o4 ML.stable hn (fun j hj => ?_) ⟨hE, hrd x (by simp), Nat.le_refl _, hm.2, hrd2 u1 (by simp), hrd2 u2 (by simp)⟩ (fun d hd => hfr d (List.mem_cons_of_mem _ hd)) (by simpa using hnd)
  have hnd3 : [1, x, u2, c1, i, c2, c3, c4, c5, y].Nodup := by
    refine List.Nodup.sublist ?_ hnd2
    exact .cons_cons _ (.cons_cons _ (.cons _ (List.Sublist.refl _)))
  exact wr_elemK o4 o5 ⟨o1, o2, o3⟩ rfl hj (fun d _ => hb d) ⟨hE2, hm.1, Nat.le_refl _⟩ (fun d hd => hfr2 d (List.mem_cons_of_mem _ hd)) hnd3

/-- The value again, under another name. -/
theorem wv_again {y : Nat} {f : Fld} {c : Code} {enc : Bs} (hsl : E.sl m k [t1, y] [x] = true) (hm : decide (m ≤ y + 1) = true) (h : WrC E (y + 1) k c (PrF E y f d) enc) :
    WrC E m k (.seq (.region r0 #[⟨some t1, .move (.tmp x), y0, q0, e0, none⟩, ⟨some y, .assign (.tmp t1), y1, q1, e1, none⟩] false) c) (PrF E x f d) enc := by
  obtain ⟨hE, hfr, hrd, hnd⟩ := sl_out hsl
  exact wv_conv h ⟨hE, of_decide_eq_true hm, Nat.le_refl _⟩ (fun d hd => hfr d (List.mem_cons_of_mem _ hd)) hnd

/-! ### Fields that are not loaded -/

theorem uuidZero : ∃ z, zeroB Try.prog 74 z ∧ z.cells.size = 16 := ⟨_, fun w => Try.zeroValue74 w, rfl⟩
theorem wf_uuid {sS k0 i T idx u1 u2 u3 ty : Nat} {fs : List Fld} {s : S}
    (hf : fs[i]? = some (.mk .uuid a1 a2 a3 a4 a5 of sub)) (hd : s.ds[i]? = some d) (hB : (fieldB Try.prog T idx (k0 + foff E.fl fs i) 16 && aggB Try.prog ty && sizeB Try.prog ty 16) = true)
    (hz : ∃ z, zeroB Try.prog ty z ∧ z.cells.size = 16) (hsl : E.sl m k [t1, t2, t3, t4, x, u1, u2, u3] [sS] = true) :
    WrC E m k (.seq (.region r0 #[⟨some t1, .move (.tmp sS), y0, q0, e0, none⟩, ⟨some t2, .nilCheck (.tmp t1), y1, q1, e1, none⟩, ⟨some t3, .fieldAddr T (.tmp t2) idx, y2, q2, e2, none⟩, ⟨some t4, .load ty (.tmp t3), y3, q3, e3, none⟩, ⟨some x, .alloc ty, y4, q4, e4, none⟩, ⟨none, .store ty (.tmp x) (.tmp t4), y5, q5, e5, none⟩] false)
      (.region r1 #[⟨some u1, .move (.tmp 1), y6, q6, e6, none⟩, ⟨some u2, .load ty (.tmp x), y7, q7, e7, none⟩, ⟨some u3, .call { callee := .value (.func 138), args := #[.tmp u1, .tmp u2], argTypes := us }, y8, q8, e8, none⟩, ⟨some 1, .assign (.tmp u3), y9, q9, e9, none⟩] false)) (PrS E sS k0 fs s)
      (encF E.flex E.ver (.mk .uuid a1 a2 a3 a4 a5 of sub) d) := by
  simp only [Bool.and_eq_true, beq_iff_eq] at hB
  obtain ⟨⟨b1, b3⟩, b4⟩ := hB
  obtain ⟨z, hz, hzs⟩ := hz
  obtain ⟨hE, hfr, hrd, hnd⟩ := sl_out hsl
  intro a w base v bs hwk hv hown hbb hpre hlim
  have hl : ∃ l, d = .uuid l := by
    obtain ⟨B, p, g1, hat, hB⟩ := hpre
    obtain ⟨d', cs, Tb, k1, k2, k3, k4⟩ := hat.field hf
    rw [hd] at k1
    cases k1
    unfold RepF at k4
    dsimp only at k4
    cases d <;> first | exact k4.elim | exact ⟨_, rfl⟩
  obtain ⟨l, rfl⟩ := hl
  have e : encF E.flex E.ver (.mk .uuid a1 a2 a3 a4 a5 of sub) (.uuid l) = l := rfl
  rw [e] at hlim ⊢
  exact wr_uuid (z := z) hf hd b1 rfl ⟨b3, b4⟩ hz hzs (fun args w => Try.call138 args w) (fun l hl => AppendUuid_c l hl) hfr hnd a w base v bs hwk hv hown hbb hpre hlim

/-- A part within a part. -/
theorem wf_inner {sS k0 i T idx y : Nat} {fs : List Fld} {s : S} {c : Code}
    (hf : fs[i]? = some (.mk .struct a1 a2 a3 a4 a5 of sub)) (hd : s.ds[i]? = some d) (hB : (fieldB Try.prog T idx (k0 + foff E.fl fs i) (fsz E.fl (.mk .struct a1 a2 a3 a4 a5 of sub)) && decide (a3 < 0)) = true)
    (hsl : E.sl m k [t1, t2, t3, y] [sS] = true) (hm : decide (m ≤ y + 1) = true) (h : ∀ s' : S, WrC E (y + 1) k c (PrS E y 0 sub s') (partEnc E sub s')) :
    WrC E m k (.seq (.region r0 #[⟨some t1, .move (.tmp sS), y0, q0, e0, none⟩, ⟨some t2, .nilCheck (.tmp t1), y1, q1, e1, none⟩, ⟨some t3, .fieldAddr T (.tmp t2) idx, y2, q2, e2, none⟩, ⟨some y, .assign (.tmp t3), y3, q3, e3, none⟩] false) c) (PrS E sS k0 fs s)
      (encF E.flex E.ver (.mk .struct a1 a2 a3 a4 a5 of sub) d) := by
  simp only [Bool.and_eq_true, beq_iff_eq, decide_eq_true_eq] at hB
  obtain ⟨b1, b3⟩ := hB
  obtain ⟨hE, hfr, hrd, hnd⟩ := sl_out hsl
  intro a w base v bs hwk hv hown hbb hpre hlim
  have hl : ∃ s' : S, d = s'.d := by
    obtain ⟨B, p, g1, hat, hB⟩ := hpre
    obtain ⟨d', cs, Tb, k1, k2, k3, k4⟩ := hat.field hf
    rw [hd] at k1
    cases k1
    unfold RepF at k4
    dsimp only at k4
    rw [if_pos b3] at k4
    obtain ⟨s', h1, _⟩ := k4
    exact ⟨s', h1⟩
  obtain ⟨s', rfl⟩ := hl
  have e : encF E.flex E.ver (.mk .struct a1 a2 a3 a4 a5 of sub) s'.d = partEnc E sub s' := by
    rw [partEnc_eq]
    unfold encF
    dsimp only
    rw [if_pos b3]
    rfl
  rw [e] at hlim ⊢
  exact wr_inner hf b3 hd b1 rfl (h s') ⟨hE, of_decide_eq_true hm, Nat.le_refl _⟩ (fun d hd => hfr d (List.mem_cons_of_mem _ hd)) hnd a w base v bs hwk hv hown hbb hpre hlim

/-! ### Behind the fields -/

/-- A message without tags. -/
theorem wp_noflex {sS k0 : Nat} {fs : List Fld} {s : S} {c : Code} (hx : E.flex = false) (h : WrC E m k c (PrS E sS k0 fs s) (fTail E fs s 0 [])) : WrC E m k c (PrS E sS k0 fs s) (partEnc E fs s) := by
  unfold partEnc tagsEnc; rw [hx]; exact h

/-- if isFlexible { dst = AppendUvarint(dst, 0 + Len); dst = AppendEach(dst) } -/
theorem wr_tail {sS k0 t t7 t8 u1 u2 u3 u4 u5 T T2 idx idx2 sl du : Nat} {us us2 us3 : Array TypeId} {fs : List Fld} {s : S}
    (hfl : E.fl = true) (hB : (!anyTag fs && fieldB Try.prog T idx (k0 + lsz true fs) 1 && fieldB Try.prog T2 idx2 (k0 + lsz true fs) 1 && someB Try.prog sl && isIntT Try.prog du) = true) (hk : kindOf Try.prog du = .u32)
    (hsl : E.sl m k [t, t1, t2, t3, t4, t5, t6, t7, t8, u1, u2, u3, u4, u5] [sS] = true) :
    WrC E m k (.seq (.region r2 #[⟨some t, .move (.tmp E.sF), y0, q0, e0, none⟩] false) (.cond (.tmp t) (.seq (.region r0 #[⟨some t1, .move (.tmp 1), y1, q1, e1, none⟩, ⟨some t2, .move (.tmp sS), y2, q2, e2, none⟩, ⟨some t3, .nilCheck (.tmp t2), y3, q3, e3, none⟩, ⟨some t4, .fieldAddr T (.tmp t3) idx, y4, q4, e4, none⟩,
        ⟨some t5, .call { callee := .value (.func 140), args := #[.tmp t4], argTypes := us }, y5, q5, e5, none⟩, ⟨some t6, .convert sl du (.tmp t5), y6, q6, e6, none⟩,
        ⟨some t7, .binOp .add du (.const (.int .u32 0)) (.tmp t6) du, y7, q7, e7, none⟩, ⟨some t8, .call { callee := .value (.func 139), args := #[.tmp t1, .tmp t7], argTypes := us2 }, y8, q8, e8, none⟩, ⟨some 1, .assign (.tmp t8), y9, q9, e9, none⟩] false)
      (.region r1 #[⟨some u1, .move (.tmp sS), y10, q10, e10, none⟩, ⟨some u2, .nilCheck (.tmp u1), y11, q11, e11, none⟩, ⟨some u3, .fieldAddr T2 (.tmp u2) idx2, y12, q12, e12, none⟩, ⟨some u4, .move (.tmp 1), y13, q13, e13, none⟩,
        ⟨some u5, .call { callee := .value (.func 141), args := #[.tmp u3, .tmp u4], argTypes := us3 }, y14, q14, e14, none⟩, ⟨some 1, .assign (.tmp u5), y15, q15, e15, none⟩] false)) .skip)) (PrS E sS k0 fs s) (tagsEnc E fs s) := by
  simp only [Bool.and_eq_true, beq_iff_eq, Bool.not_eq_true'] at hB
  obtain ⟨⟨⟨⟨b0, b1⟩, b3⟩, b5⟩, b6⟩ := hB
  obtain ⟨hE, hfr, hrd, hnd⟩ := sl_out hsl
  have e : tagsEnc E fs s = if E.flex then encTagsPart 0 [] s.tags else [] := by unfold tagsEnc; rw [encKnown_none _ _ _ _ b0]
  rw [e]
  have hfr2 : ∀ d ∈ [1, t1, t2, t3, t4, t5, t6, t7, t8, u1, u2, u3, u4, u5], Fre E m k d := fun d hd => hfr d (by
    rcases List.mem_cons.1 hd with rfl | h
    · simp
    · exact List.mem_cons_of_mem _ (List.mem_cons_of_mem _ h))
  have hnd2 : [1, sS, t1, t2, t3, t4, t5, t6, t7, t8, u1, u2, u3, u4, u5].Nodup := hnd.sublist (.cons_cons _ (.cons_cons _ (.cons _ (List.Sublist.refl _))))
  have ht := hfr t (by simp)
  simp only [List.nodup_cons, List.mem_cons, List.mem_append, List.cons_append, List.nil_append, List.not_mem_nil, or_false, not_or, List.nodup_nil, and_true, not_false_eq_true] at hnd
  exact wr_ifflex hfl (fun _ => wr_tags hfl b1 rfl b3 rfl ⟨b5, b6, hk⟩ ⟨hE, hrd sS (by simp)⟩ hfr2 hnd2) (PrS.put (by first | (simp only [hnd, not_false_eq_true, ne_eq]; done) | (intro e; simp [e] at hnd))) ⟨hE, ht, (by first | (simp only [hnd, not_false_eq_true, ne_eq]; done) | (intro e; simp [e] at hnd))⟩

/-! ### The whole function -/

theorem wr_start {sS k0 : Nat} {fs : List Fld} {s : S} {c : Code} (h : WrC E m k c (PrS E sS k0 fs s) (fTail E fs s 0 (tagsEnc E fs s))) : WrC E m k c (PrS E sS k0 fs s) (partEnc E fs s) := h

/-- Code that writes the octets enc and returns. -/
def WrT (E : WEnv) (m k r : Nat) (c : Code) (pre : Act → World → Nat → Prop) (enc : Bs) : Prop :=
  ∀ (a : Act) (w : World) (base : Nat) (v : Value) (bs : Bs), WOK E a → get a 1 = v → Own eB w base v bs → base ≤ w.heap.size → pre a w base → bs.length + enc.length ≤ LIM →
    c.wp Try.prog (Fin r (App eB w base v (bs ++ enc))) a w

theorem wt_start {r sS k0 : Nat} {fs : List Fld} {s : S} {c : Code} (h : WrT E m k r c (PrS E sS k0 fs s) (fTail E fs s 0 (tagsEnc E fs s))) : WrT E m k r c (PrS E sS k0 fs s) (partEnc E fs s) := h
theorem wt_seq {r : Nat} {c1 c2 : Code} {pre : Act → World → Nat → Prop} {enc1 enc2 : Bs} (hE : E.safe m k) (h1 : WrC E m k c1 pre enc1) (h2 : WrT E m k r c2 pre enc2) (hs : Stable E m k pre pre) : WrT E m k r (.seq c1 c2) pre (enc1 ++ enc2) := by
  intro a w base v bs hok hv hown hb hpre hlim
  rw [List.length_append] at hlim
  refine wp_seq (wp_mono (h1 a w base v bs hok hv hown hb hpre (by omega)) ?_)
  intro e a1 w1 hq
  cases e <;> try exact hq.elim
  obtain ⟨hk, happ⟩ := hq
  have hc := happ.chgFrom hown
  refine wp_mono (h2 a1 w1 base _ _ (hok.keep hk hE.1 hE.2) rfl happ.own (Nat.le_trans hb hc.size) (hs _ _ _ _ _ hpre hk hc hb) (by rw [List.length_append]; omega)) ?_
  intro e a2 w2 hq
  cases e <;> simp only [Fin] at hq ⊢ <;> exact ⟨hq.1, by rw [← List.append_assoc]; exact happ.trans hq.2⟩
theorem wt_next {r sS k0 i : Nat} {fs : List Fld} {s : S} {f : Fld} {tl : Bs} {c1 c2 : Code} (hf : fs[i]? = some f) (hsl : E.sl m k [] [sS] = true)
    (h1 : ∀ d, s.ds[i]? = some d → WrC E m k c1 (PrS E sS k0 fs s) (fEnc E f d)) (h2 : WrT E m k r c2 (PrS E sS k0 fs s) (fTail E fs s (i + 1) tl)) :
    WrT E m k r (.seq c1 c2) (PrS E sS k0 fs s) (fTail E fs s i tl) := by
  intro a w base v bs hwk hv hown hb hpre hlim
  obtain ⟨d, hd⟩ := hpre.at_d hf
  rw [fTail_step hf hd] at hlim ⊢
  obtain ⟨hE, _, hr, _⟩ := sl_out hsl
  exact wt_seq hE (h1 d hd) h2 (PrS.stable (hr sS (by simp))) a w base v bs hwk hv hown hb hpre hlim
theorem wt_tagged {r sS k0 i : Nat} {fs : List Fld} {s : S} {f : Fld} {tl : Bs} {c : Code} (hf : fs[i]? = some f) (ht : decide (0 ≤ f.tag) = true)
    (h : WrT E m k r c (PrS E sS k0 fs s) (fTail E fs s (i + 1) tl)) : WrT E m k r c (PrS E sS k0 fs s) (fTail E fs s i tl) := by
  intro a w base v bs hwk hv hown hb hpre hlim
  obtain ⟨d, hd⟩ := hpre.at_d hf
  have e : fEnc E f d = [] := by
    have := of_decide_eq_true ht
    unfold fEnc; rw [if_neg]; simp; omega
  rw [fTail_step hf hd, e, List.nil_append] at hlim ⊢
  exact h a w base v bs hwk hv hown hb hpre hlim
/-- return dst -/
theorem wt_ret {r t : Nat} {pre : Act → World → Nat → Prop} (ht : (decide (t < E.N) && decide (r < E.N)) = true) : WrT E m k r (.seq (.region r0 #[⟨some t, .move (.tmp 1), y0, q0, e0, none⟩, ⟨some r, .assign (.tmp t), y1, q1, e1, none⟩] false) .ret) pre [] := by
  simp only [Bool.and_eq_true, decide_eq_true_eq] at ht
  intro a w base v bs hok hv hown hb hpre hlim
  have hN := hok.1
  refine wp_seq_k fun K hK => ?_
  refine wp_reg ?_
  refine wl_move ?_
  rw [eval_tmp, hv]
  refine wl_assign ?_
  rw [eval_tmp, get_put_self (by rw [hN]; exact ht.1)]
  refine wl_nil (hK _ _ ?_)
  refine wp_ret ⟨by rw [defers_put, defers_put]; exact hok.2.1, ?_⟩
  rw [get_put_self (by rw [size_put, hN]; exact ht.2), List.append_nil]
  exact App.refl hown
/-- The tail, then the return. -/
theorem wt_end {r sS k0 i : Nat} {fs : List Fld} {s : S} {c1 c2 : Code} (hl : decide (fs.length ≤ i) = true) (hsl : E.sl m k [] [sS] = true) (h1 : WrC E m k c1 (PrS E sS k0 fs s) (tagsEnc E fs s)) (h2 : WrT E m k r c2 (PrS E sS k0 fs s) []) :
    WrT E m k r (.seq c1 c2) (PrS E sS k0 fs s) (fTail E fs s i (tagsEnc E fs s)) := by
  rw [fTail_end (of_decide_eq_true hl)]
  obtain ⟨hE, _, hr, _⟩ := sl_out hsl
  have := wt_seq hE h1 h2 (PrS.stable (hr sS (by simp)))
  rwa [List.append_nil] at this
/-- No tail. -/
theorem wt_fin {r sS k0 i : Nat} {fs : List Fld} {s : S} {c2 : Code} (hl : decide (fs.length ≤ i) = true) (hx : E.flex = false) (h2 : WrT E m k r c2 (PrS E sS k0 fs s) []) :
    WrT E m k r c2 (PrS E sS k0 fs s) (fTail E fs s i (tagsEnc E fs s)) := by
  rw [fTail_end (of_decide_eq_true hl)]
  unfold tagsEnc; rw [hx]; exact h2

/-- What AppendTo of a message does. -/
def AppendsTo (fn : FuncId) (fl : Bool) (flx : Int → Bool) (fs : List Fld) : Prop :=
  ∀ (s : S) (ver : Int) (B : Nat) (w : World) (base : Nat) (v : Value) (bs : Bs), 0 ≤ ver → (∃ cs T, Blk w B cs T ∧ cs[0]? = some (.int .i16 ver)) → At w (fun g => g < base) fl fs s B 1 → B < base → base ≤ w.heap.size →
    Own eB w base v bs → bs.length + (encPart (flx ver) ver fs s).length ≤ LIM →
    CallsR Try.prog fn #[.pointer (some ⟨B, 0, none⟩), v] w (App eB w base v (bs ++ encPart (flx ver) ver fs s))

theorem app_flex {fn : FuncId} {func : Func} {N r sV sF t0 t1 t2 t3 t4 t5 t6 t7 T ty u : Nat} {i0 i1 : Nat} {vf : Int} {fs : List Fld} {c : Code}
    (hfn : (Try.prog).funcs[fn]? = some func)
    (hbody : func.body = some (.seq (.region r0 #[⟨some r, .assign (.const (.slice none i0 i1)), y0, q0, e0, none⟩] false) (.seq (.region r1 #[⟨some t0, .move (.tmp 0), y1, q1, e1, none⟩, ⟨some t1, .nilCheck (.tmp t0), y2, q2, e2, none⟩, ⟨some t2, .fieldAddr T (.tmp t1) 0, y3, q3, e3, none⟩, ⟨some t3, .load ty (.tmp t2), y4, q4, e4, none⟩, ⟨some sV, .assign (.tmp t3), y5, q5, e5, none⟩] false)
      (.seq (.region r2 #[⟨some t4, .move (.tmp sV), y6, q6, e6, none⟩] false) (.seq (.region r3 #[⟨some t5, .move (.tmp sV), y7, q7, e7, none⟩, ⟨some t6, .binOp .geq u (.tmp t5) (.const (.int .i16 vf)) u, y8, q8, e8, none⟩, ⟨some sF, .assign (.tmp t6), y9, q9, e9, none⟩] false) (.seq (.region r4 #[⟨some t7, .move (.tmp sF), y10, q10, e10, none⟩] false) c))))))
    (hres : func.results = #[.tmp r]) (hN : func.ntmps = N) (hF : (fieldB Try.prog T 0 0 1 && scalB Try.prog ty && decide (2 ≤ N) && decide ((0 :: 1 :: [r, t0, t1, t2, t3, t4, t5, t6, t7, sV, sF]).Nodup) && [r, t0, t1, t2, t3, t4, t5, t6, t7, sV, sF].all (fun t => decide (t < N))) = true)
    (h : ∀ (ver : Int) (s : S), 0 ≤ ver → WrT ⟨N, t0, sV, sF, ver, decide (vf ≤ ver), true⟩ (sF + 1) t0 r c (PrS ⟨N, t0, sV, sF, ver, decide (vf ≤ ver), true⟩ 0 1 fs s) (partEnc ⟨N, t0, sV, sF, ver, decide (vf ≤ ver), true⟩ fs s)) :
    AppendsTo fn true (fun ver => decide (vf ≤ ver)) fs := by
  simp only [Bool.and_eq_true, decide_eq_true_eq, List.all_eq_true] at hF
  obtain ⟨⟨⟨⟨f1, f2⟩, f3⟩, hnd⟩, hlt⟩ := hF
  simp only [List.nodup_cons, List.mem_cons, List.not_mem_nil, or_false, not_or, List.nodup_nil, and_true, not_false_eq_true, forall_eq_or_imp, forall_eq] at hnd hlt
  intro s ver B w base v bs hver hb0 hat hB hbase hown hlim
  obtain ⟨cs, Tb, hblk, hc0⟩ := hb0
  refine callsR_of hfn hbody hres hN (by simpa using f3) ?_
  intro a hN hD ha
  have h0 : get a 0 = .pointer (some ⟨B, 0, none⟩) := ha 0 _ rfl
  have h1 : get a 1 = v := ha 1 _ rfl
  have hfr : True := trivial
  refine wp_seq_k fun K hK => ?_
  refine wp_reg ?_
  refine wl_assign ?_
  refine wl_nil (hK _ _ ?_)
  clear hK K
  refine wp_seq_k fun K hK => ?_
  refine wp_reg ?_
  refine wl_move ?_
  simp only [eval_tmp, eval_const, get_put_self, get_put_ne, get_put_ne', ne_eq, size_put, hN, hnd, hlt, not_false_eq_true, h0]
  refine wl_nilCheck (p := ⟨B, 0, none⟩) (by simp only [eval_tmp, eval_const, get_put_self, get_put_ne, get_put_ne', ne_eq, size_put, hN, hnd, hlt, not_false_eq_true, h0]) ?_
  refine wl_fieldAddr (b := B) (o := 0) f1 (by simp only [eval_tmp, eval_const, get_put_self, get_put_ne, get_put_ne', ne_eq, size_put, hN, hnd, hlt, not_false_eq_true, h0]) ?_
  refine wl_load (b := B) (o := 0 + 0) f2 (by simp only [eval_tmp, eval_const, get_put_self, get_put_ne, get_put_ne', ne_eq, size_put, hN, hnd, hlt, not_false_eq_true, h0]) hblk hc0 ?_
  refine wl_assign ?_
  simp only [eval_tmp, eval_const, get_put_self, get_put_ne, get_put_ne', ne_eq, size_put, hN, hnd, hlt, not_false_eq_true, h0]
  refine wl_nil (hK _ _ ?_)
  clear hK K
  refine wp_seq_k fun K hK => ?_
  refine wp_reg ?_
  refine wl_move ?_
  simp only [eval_tmp, eval_const, get_put_self, get_put_ne, get_put_ne', ne_eq, size_put, hN, hnd, hlt, not_false_eq_true, h0]
  refine wl_nil (hK _ _ ?_)
  clear hK K
  refine wp_seq_k fun K hK => ?_
  refine wp_reg ?_
  refine wl_move ?_
  simp only [eval_tmp, eval_const, get_put_self, get_put_ne, get_put_ne', ne_eq, size_put, hN, hnd, hlt, not_false_eq_true, h0]
  refine wl_geq (by simp only [eval_tmp, eval_const, get_put_self, get_put_ne, get_put_ne', ne_eq, size_put, hN, hnd, hlt, not_false_eq_true, h0, sameK, decide_true]) ?_
  simp only [eval_tmp, eval_const, get_put_self, get_put_ne, get_put_ne', ne_eq, size_put, hN, hnd, hlt, not_false_eq_true, h0, cmp2]
  refine wl_assign ?_
  simp only [eval_tmp, eval_const, get_put_self, get_put_ne, get_put_ne', ne_eq, size_put, hN, hnd, hlt, not_false_eq_true, h0]
  refine wl_nil (hK _ _ ?_)
  clear hK K
  refine wp_seq_k fun K hK => ?_
  refine wp_reg ?_
  refine wl_move ?_
  simp only [eval_tmp, eval_const, get_put_self, get_put_ne, get_put_ne', ne_eq, size_put, hN, hnd, hlt, not_false_eq_true, h0]
  refine wl_nil (hK _ _ ?_)
  clear hK K
  have he : partEnc ⟨N, t0, sV, sF, ver, decide (vf ≤ ver), true⟩ fs s = encPart (decide (vf ≤ ver)) ver fs s := partEnc_eq _ _ _
  rw [← he] at hlim ⊢
  refine h ver s hver _ w base v bs ⟨by simp only [size_put, hN], by simp only [defers_put, hD], ?_, fun _ => ?_⟩ ?_ hown hbase ⟨B, 0, ?_, ?_, hB⟩ hlim
  · simp only [eval_tmp, eval_const, get_put_self, get_put_ne, get_put_ne', ne_eq, size_put, hN, hnd, hlt, not_false_eq_true, h0]
  · simp only [eval_tmp, eval_const, get_put_self, get_put_ne, get_put_ne', ne_eq, size_put, hN, hnd, hlt, not_false_eq_true, h0]
  · simp only [eval_tmp, eval_const, get_put_self, get_put_ne, get_put_ne', ne_eq, size_put, hN, hnd, hlt, not_false_eq_true, h1]
  · simp only [eval_tmp, eval_const, get_put_self, get_put_ne, get_put_ne', ne_eq, size_put, hN, hnd, hlt, not_false_eq_true, h0]
  · exact hat

end
end Go.Proofs.Ytkhmglikdlgfpaa
