import Derived.Test.YtgjnllebnkjofaaDoorZK
import Derived.Test.YtgjnllebnkjofaaDoorZA
import Derived.Test.YtgjnllebnkjofaaDoorZT
/-
What the proofs of the laws rest on, part ZW.
-/
namespace Go.Proofs.YtgjnllebnkjofaaDoor
set_option linter.all false
open Go.RowKit
set_option maxRecDepth 10000
structure WEnv where
  N : Nat
  T : Nat
  sV : Nat
  sF : Nat
  ver : Int
  flex : Bool
  fl : Bool
def WS (m T k : Nat) (t : Nat) : Prop := (t < m ∧ t ≠ 1) ∨ (T ≤ t ∧ t < k)
instance (m T k t : Nat) : Decidable (WS m T k t) := inferInstanceAs (Decidable (_ ∨ _))
def Fre (E : WEnv) (m k d : Nat) : Prop := ¬ WS m E.T k d ∧ d < E.N
instance (E : WEnv) (m k d : Nat) : Decidable (Fre E m k d) := inferInstanceAs (Decidable (_ ∧ _))
theorem WS.mono {m m' T k k' t : Nat} (h : m ≤ m') (h2 : k ≤ k') (hs : WS m T k t) : WS m' T k' t := by
  unfold WS at *; omega
def WOK (E : WEnv) (a : Act) : Prop := a.tmps.size = E.N ∧ a.defers = [] ∧ get a E.sV = .int .i16 E.ver ∧ (E.fl = true → get a E.sF = .bool E.flex)
theorem WOK.keep {E : WEnv} {S : Nat → Prop} {a a' : Act} (h : WOK E a) (k : za3 S a a') (hv : S E.sV) (hf : E.fl = true → S E.sF) : WOK E a' :=
  ⟨k.size.trans h.1, k.defers.trans h.2.1, (k.slot _ hv).trans h.2.2.1, fun e => (k.slot _ (hf e)).trans (h.2.2.2 e)⟩
def WEnv.safe (E : WEnv) (m k : Nat) : Prop := WS m E.T k E.sV ∧ (E.fl = true → WS m E.T k E.sF)
instance (E : WEnv) (m k : Nat) : Decidable (E.safe m k) := inferInstanceAs (Decidable (_ ∧ _))
def WQ (S : Nat → Prop) (a : Act) (w : World) (base : Nat) (v : Value) (bs : Bs) : Exit → Act → World → Prop
  | .normal, a', w' => za3 S a a' ∧ App eB w base v bs (get a' 1) w'
  | _, _, _ => False
def WrC (E : WEnv) (m k : Nat) (c : Code) (pre : Act → World → Nat → Prop) (enc : Bs) : Prop :=
  ∀ (a : Act) (w : World) (base : Nat) (v : Value) (bs : Bs), WOK E a → get a 1 = v → Own eB w base v bs → base ≤ w.heap.size → pre a w base → bs.length + enc.length ≤ LIM →
    c.wp Tryd.prog (WQ (WS m E.T k) a w base v (bs ++ enc)) a w
theorem App.refl {w : World} {base : Nat} {v : Value} {bs : Bs} (h : Own eB w base v bs) : App eB w base v bs v w := ⟨h, Chg.refl _ _, .inl rfl⟩
def Stable (E : WEnv) (m k : Nat) (pre pre' : Act → World → Nat → Prop) : Prop :=
  ∀ a w base a' w', pre a w base → za3 (WS m E.T k) a a' → Chg (fun n => base ≤ n) w w' → base ≤ w.heap.size → pre' a' w' base
theorem wr_seq {E : WEnv} {m k : Nat} {c1 c2 : Code} {pre pre1 pre2 : Act → World → Nat → Prop} {enc1 enc2 : Bs} (hE : E.safe m k)
    (h1 : WrC E m k c1 pre1 enc1) (h2 : WrC E m k c2 pre2 enc2) (hp : ∀ a w base, pre a w base → pre1 a w base) (hs : Stable E m k pre pre2) : WrC E m k (.seq c1 c2) pre (enc1 ++ enc2) := by
  intro a w base v bs hok hv hown hb hpre hlim
  rw [List.length_append] at hlim
  refine wp_seq (wp_mono (h1 a w base v bs hok hv hown hb (hp _ _ _ hpre) (by omega)) ?_)
  intro e a1 w1 hq
  cases e <;> try exact hq.elim
  obtain ⟨hk, happ⟩ := hq
  have hc := happ.chgFrom hown
  refine wp_mono (h2 a1 w1 base _ _ (hok.keep hk hE.1 hE.2) rfl happ.own (Nat.le_trans hb hc.size) (hs _ _ _ _ _ hpre hk hc hb) (by rw [List.length_append]; omega)) ?_
  intro e a2 w2 hq
  cases e <;> try exact hq.elim
  obtain ⟨hk2, happ2⟩ := hq
  refine ⟨hk.trans hk2, ?_⟩
  rw [← List.append_assoc]
  exact happ.trans happ2
theorem wr_skip {E : WEnv} {m k : Nat} {pre : Act → World → Nat → Prop} : WrC E m k .skip pre [] := by
  intro a w base v bs hok hv hown hb hpre hlim
  refine wp_skip ⟨za3.refl _ _, ?_⟩
  rw [hv, List.append_nil]
  exact App.refl hown
section
variable {E : WEnv} {m k : Nat} {y0 y1 y2 y3 y4 y5 y6 y7 y8 y9 : TypeId} {q0 q1 q2 q3 q4 q5 q6 q7 q8 q9 : String} {e0 e1 e2 e3 e4 e5 e6 e7 e8 e9 : Array Edge} {r0 r1 r2 r3 r4 : Nat}
theorem wr_go {c : Code} {pre : Act → World → Nat → Prop} {enc : Bs} {m' k' : Nat} (hm : m ≤ m') (hk : k ≤ k') (hE : E.safe m k) (h : WrC E m' k' c pre enc) {a a1 : Act} {w : World} {base : Nat} {v : Value} {bs : Bs}
    (hok : WOK E a) (hv : get a 1 = v) (hown : Own eB w base v bs) (hb : base ≤ w.heap.size) (hlim : bs.length + enc.length ≤ LIM)
    (hkp : za3 (WS m E.T k) a a1) (h1 : get a1 1 = get a 1) (hpre : pre a1 w base) : c.wp Tryd.prog (WQ (WS m E.T k) a w base v (bs ++ enc)) a1 w := by
  refine wp_mono (h a1 w base v bs (hok.keep hkp hE.1 hE.2) (h1.trans hv) hown hb hpre hlim) ?_
  intro e a2 w2 hq
  cases e <;> first | exact hq.elim | exact ⟨hkp.trans (hq.1.mono fun t ht => ht.mono hm hk), hq.2⟩
def PrS (E : WEnv) (sS k0 : Nat) (fs : List Fld) (s : S) (a : Act) (w : World) (base : Nat) : Prop :=
  ∃ B p, get a sS = .pointer (some ⟨B, p, none⟩) ∧ At w (fun g => g < base) E.fl fs s B (p + k0) ∧ B < base
theorem PrS.stable {sS k0 : Nat} {fs : List Fld} {s : S} (h : WS m E.T k sS) : Stable E m k (PrS E sS k0 fs s) (PrS E sS k0 fs s) := by
  rintro a w base a' w' ⟨B, p, h1, h2, h3⟩ hk hc hb
  exact ⟨B, p, (hk.slot _ h).trans h1, h2.stay (Stay.of hc fun n hn _ => by omega) (hc.block B (by omega) (by omega)), h3⟩
def PrF (E : WEnv) (x : Nat) (f : Fld) (d : D) (a : Act) (w : World) (base : Nat) : Prop :=
  ∃ val, get a x = val ∧ RepF w (fun g => g < base) E.fl f d [val]
theorem seg1 {l : List Value} {o : Nat} (h : o + 1 ≤ l.length) : ∃ v, l[o]? = some v ∧ (l.drop o).take 1 = [v] := by
  have ho : o < l.length := by omega
  refine ⟨l[o], by simp [ho], ?_⟩
  rw [List.drop_eq_getElem_cons ho, List.take_succ_cons, List.take_zero]
theorem wr_field {sS k0 i T idx ty x t1 t2 t3 t4 m' k' off n : Nat} {fs : List Fld} {s : S} {f : Fld} {d : D} {c : Code} {enc : Bs}
    (hf : fs[i]? = some f) (hd : s.ds[i]? = some d) (h1 : fsz E.fl f = 1) (hF : fieldB Tryd.prog T idx off n = true) (ho : off = k0 + foff E.fl fs i) (hty : scalB Tryd.prog ty = true)
    (hsl : E.safe m k ∧ m ≤ m' ∧ k ≤ k' ∧ Fre E m k t1 ∧ Fre E m k t2 ∧ Fre E m k t3 ∧ Fre E m k t4 ∧ Fre E m k x ∧ t1 ≠ 1 ∧ t2 ≠ 1 ∧ t3 ≠ 1 ∧ t4 ≠ 1 ∧ x ≠ 1)
    (h : WrC E m' k' c (PrF E x f d) enc) :
    WrC E m k (.seq (.region r0 #[⟨some t1, .move (.tmp sS), y0, q0, e0, none⟩, ⟨some t2, .nilCheck (.tmp t1), y1, q1, e1, none⟩, ⟨some t3, .fieldAddr T (.tmp t2) idx, y2, q2, e2, none⟩, ⟨some t4, .load ty (.tmp t3), y3, q3, e3, none⟩, ⟨some x, .assign (.tmp t4), y4, q4, e4, none⟩] false) c) (PrS E sS k0 fs s) enc := by
  obtain ⟨hE, hm, hk, f1, f2, f3, f4, fx, n1, n2, n3, n4, nx⟩ := hsl
  intro a w base v bs hok hv hown hb hpre hlim
  obtain ⟨B, p, g1, hat, hB⟩ := hpre
  obtain ⟨d', cs, Tb, k1, k2, k3, k4⟩ := hat.field hf
  rw [hd] at k1; cases k1
  rw [h1] at k3 k4
  obtain ⟨val, hval, hseg⟩ := seg1 (by omega : (p + k0 + foff E.fl fs i) + 1 ≤ cs.length)
  rw [hseg] at k4
  refine wp_seq_k fun K hK => ?_
  refine zag ?_
  refine zaQ ?_
  rw [zah, g1]
  refine wl_nilCheck (p := ⟨B, p, none⟩) (by rw [zah, zae (by rw [hok.1]; exact f1.2)]) ?_
  refine wl_fieldAddr (b := B) (o := p) hF (by rw [zah, zae (by rw [zai, hok.1]; exact f2.2)]) ?_
  refine zaE hty (by rw [zah, zae (by rw [zai, zai, hok.1]; exact f3.2)]) k2 (v := val) (by rw [ho, ← Nat.add_assoc]; exact hval) ?_
  refine zaB ?_
  rw [zah, zae (by rw [zai, zai, zai, hok.1]; exact f4.2)]
  refine zad (hK _ _ ?_)
  refine wr_go hm hk hE h hok hv hown hb hlim (((((za3.refl _ _).put f1.1 _).put f2.1 _).put f3.1 _).put f4.1 _ |>.put fx.1 _) ?_ ⟨val, zae (by simp only [zai, hok.1]; exact fx.2), k4⟩
  rw [zac nx, zac n4, zac n3, zac n2, zac n1]
theorem wv_callG {x t1 t2 t3 : Nat} {f : Fld} {d : D} {enc : Bs} {fn : FuncId} {ts : Array TypeId} (hen : Enters Tryd.prog fn)
    (hc : ∀ w base v bs val, RepF w (fun g => g < base) E.fl f d [val] → Own eB w base v bs → bs.length + enc.length ≤ LIM → base ≤ w.heap.size → zaD Tryd.prog fn (v :: [val]).toArray w (App eB w base v (bs ++ enc)))
    (hsl : Fre E m k t1 ∧ Fre E m k t2 ∧ Fre E m k t3 ∧ t1 ≠ 1 ∧ t1 ≠ t2 ∧ t1 ≠ x ∧ ¬ WS m E.T k 1 ∧ 1 < E.N) :
    WrC E m k (.region r0 #[⟨some t1, .move (.tmp 1), y0, q0, e0, none⟩, ⟨some t2, .move (.tmp x), y1, q1, e1, none⟩, ⟨some t3, .call { callee := .value (.func fn), args := #[.tmp t1, .tmp t2], argTypes := ts }, y2, q2, e2, none⟩, ⟨some 1, .assign (.tmp t3), y3, q3, e3, none⟩] false) (PrF E x f d) enc := by
  obtain ⟨f1, f2, f3, n1, n12, n1x, hw1, hN1⟩ := hsl
  intro a w base v bs hok hv hown hb hpre hlim
  obtain ⟨val, g1, hr⟩ := hpre
  refine zag ?_
  refine zaQ ?_
  refine zaQ ?_
  rw [zah, zah, hv, zac n1x, g1]
  refine zaC (R := App eB w base v (bs ++ enc)) hen ?_ ?_
  · have e1 : (#[Operand.tmp t1, Operand.tmp t2].map ((a.put (some t1) v).put (some t2) val).eval) = (v :: [val]).toArray := by
      simp only [List.map_toArray, List.map_cons, List.map_nil, zah]
      rw [zae (by rw [zai, hok.1]; exact f2.2), zac (Ne.symm n12), zae (by rw [hok.1]; exact f1.2)]
    rw [e1]
    exact hc w base v bs val hr hown hlim hb
  intro v' w' ha
  refine zaB ?_
  rw [zah, zae (by simp only [zai, hok.1]; exact f3.2)]
  refine zad ⟨((((za3.refl _ _).put f1.1 _).put f2.1 _).put f3.1 _).put hw1 _, ?_⟩
  rw [zae (by simp only [zai, hok.1]; exact hN1)]
  exact ha
theorem wv_call {x t1 t2 t3 : Nat} {f : Fld} {d : D} {enc : Bs} {fn : FuncId} {ts : Array TypeId} (hen : Enters Tryd.prog fn)
    (hc : ∀ w base val, RepF w (fun g => g < base) E.fl f d [val] → ∃ pr, AppC fn [val] enc pr ∧ pr w)
    (hsl : Fre E m k t1 ∧ Fre E m k t2 ∧ Fre E m k t3 ∧ t1 ≠ 1 ∧ t1 ≠ t2 ∧ t1 ≠ x ∧ ¬ WS m E.T k 1 ∧ 1 < E.N) :
    WrC E m k (.region r0 #[⟨some t1, .move (.tmp 1), y0, q0, e0, none⟩, ⟨some t2, .move (.tmp x), y1, q1, e1, none⟩, ⟨some t3, .call { callee := .value (.func fn), args := #[.tmp t1, .tmp t2], argTypes := ts }, y2, q2, e2, none⟩, ⟨some 1, .assign (.tmp t3), y3, q3, e3, none⟩] false) (PrF E x f d) enc :=
  wv_callG hen (fun w base v bs val hr ho hl hb => by
    obtain ⟨pr, happ, hpr⟩ := hc w base val hr
    exact happ w base v bs ho hl hb hpr) hsl
theorem wv_flex {t : Nat} {ca cb : Code} {pre : Act → World → Nat → Prop} {enc : Bs} (hfl : E.fl = true)
    (ha : E.flex = true → WrC E m k ca pre enc) (hb' : E.flex = false → WrC E m k cb pre enc) (hp : ∀ a w base v, pre a w base → pre (a.put (some t) v) w base)
    (hsl : E.safe m k ∧ Fre E m k t ∧ t ≠ 1) :
    WrC E m k (.seq (.region r0 #[⟨some t, .move (.tmp E.sF), y0, q0, e0, none⟩] false) (.cond (.tmp t) ca cb)) pre enc := by
  obtain ⟨hE, f1, n1⟩ := hsl
  intro a w base v bs hok hv hown hb hpre hlim
  refine wp_seq_k fun K hK => ?_
  refine zag ?_
  refine zaQ ?_
  rw [zah, hok.2.2.2 hfl]
  refine zad (hK _ _ ?_)
  have hkp : za3 (WS m E.T k) a (a.put (some t) (.bool E.flex)) := (za3.refl _ _).put f1.1 _
  have hev : (a.put (some t) (.bool E.flex)).eval (.tmp t) = .bool E.flex := by rw [zah, zae (by rw [hok.1]; exact f1.2)]
  cases hx : E.flex with
  | true =>
    rw [hx] at hev hkp
    exact wp_cond_true hev (wr_go (Nat.le_refl _) (Nat.le_refl _) hE (ha hx) hok hv hown hb hlim hkp (zac n1) (hp _ _ _ _ hpre))
  | false =>
    rw [hx] at hev hkp
    exact wp_cond_false hev (wr_go (Nat.le_refl _) (Nat.le_refl _) hE (hb' hx) hok hv hown hb hlim hkp (zac n1) (hp _ _ _ _ hpre))
theorem PrF.put {x : Nat} {f : Fld} {d : D} {t : Nat} (h : t ≠ x) : ∀ a w base v, PrF E x f d a w base → PrF E x f d (a.put (some t) v) w base := by
  rintro a w base v ⟨val, h1, h2⟩
  exact ⟨val, (zac h).trans h1, h2⟩
theorem PrS.put {sS k0 : Nat} {fs : List Fld} {s : S} {t : Nat} (h : t ≠ sS) : ∀ a w base v, PrS E sS k0 fs s a w base → PrS E sS k0 fs s (a.put (some t) v) w base := by
  rintro a w base v ⟨B, p, h1, h2⟩
  exact ⟨B, p, (zac h).trans h1, h2⟩
theorem wr_ifver {t1 t2 : Nat} {u : Nat} {c : Code} {n : Int} {pre : Act → World → Nat → Prop} {enc : Bs}
    (h : n ≤ E.ver → WrC E m k c pre enc) (hp : ∀ a w base v, pre a w base → pre (a.put (some t1) v) w base) (hp2 : ∀ a w base v, pre a w base → pre (a.put (some t2) v) w base)
    (hsl : E.safe m k ∧ Fre E m k t1 ∧ Fre E m k t2 ∧ t1 ≠ 1 ∧ t2 ≠ 1) :
    WrC E m k (.seq (.region r0 #[⟨some t1, .move (.tmp E.sV), y0, q0, e0, none⟩, ⟨some t2, .binOp .geq u (.tmp t1) (.const (.int .i16 n)) u, y1, q1, e1, none⟩] false) (.cond (.tmp t2) c .skip)) pre (if n ≤ E.ver then enc else []) := by
  obtain ⟨hE, f1, f2, n1, n2⟩ := hsl
  intro a w base v bs hok hv hown hb hpre hlim
  refine wp_seq_k fun K hK => ?_
  refine zag ?_
  refine zaQ ?_
  rw [zah, hok.2.2.1]
  have hx : (a.put (some t1) (.int .i16 E.ver)).eval (.tmp t1) = .int .i16 E.ver := by rw [zah, zae (by rw [hok.1]; exact f1.2)]
  refine wl_geq (by rw [hx]; rfl) ?_
  rw [hx]
  simp only [zaj, cmp2]
  refine zad (hK _ _ ?_)
  have hkp : za3 (WS m E.T k) a ((a.put (some t1) (.int .i16 E.ver)).put (some t2) (.bool (decide (n ≤ E.ver)))) := ((za3.refl _ _).put f1.1 _).put f2.1 _
  have hev : ((a.put (some t1) (.int .i16 E.ver)).put (some t2) (.bool (decide (n ≤ E.ver)))).eval (.tmp t2) = .bool (decide (n ≤ E.ver)) := by rw [zah, zae (by rw [zai, hok.1]; exact f2.2)]
  by_cases hc : n ≤ E.ver
  · rw [if_pos hc] at hlim ⊢
    rw [decide_eq_true hc] at hev hkp ⊢
    exact wp_cond_true hev (wr_go (Nat.le_refl _) (Nat.le_refl _) hE (h hc) hok hv hown hb hlim hkp ((zac n2).trans (zac n1)) (hp2 _ _ _ _ (hp _ _ _ _ hpre)))
  · rw [if_neg hc] at hlim ⊢
    rw [decide_eq_false hc] at hev hkp ⊢
    exact wp_cond_false hev (wr_go (Nat.le_refl _) (Nat.le_refl _) hE wr_skip hok hv hown hb hlim hkp ((zac n2).trans (zac n1)) (hp2 _ _ _ _ (hp _ _ _ _ hpre)))
end
end Go.Proofs.YtgjnllebnkjofaaDoor
namespace Go.Proofs.YtgjnllebnkjofaaDoor
set_option linter.all false
open Go.RowKit
set_option maxRecDepth 10000
section
variable {E : WEnv} {m k : Nat} {y0 y1 y2 y3 y4 y5 y6 y7 y8 y9 y10 y11 y12 y13 y14 y15 y16 y17 y18 y19 y20 y21 y22 y23 y24 y25 y26 y27 y28 y29 y30 y31 y32 y33 y34 y35 y36 y37 y38 y39 : TypeId} {q0 q1 q2 q3 q4 q5 q6 q7 q8 q9 q10 q11 q12 q13 q14 q15 q16 q17 q18 q19 q20 q21 q22 q23 q24 q25 q26 q27 q28 q29 q30 q31 q32 q33 q34 q35 q36 q37 q38 q39 : String} {e0 e1 e2 e3 e4 e5 e6 e7 e8 e9 e10 e11 e12 e13 e14 e15 e16 e17 e18 e19 e20 e21 e22 e23 e24 e25 e26 e27 e28 e29 e30 e31 e32 e33 e34 e35 e36 e37 e38 e39 : Array Edge} {r0 r1 r2 r3 r4 r5 : Nat}
def PrL (x : Nat) (oa : Option Addr) (n cap : Nat) (M : World → Nat → Prop) (a : Act) (w : World) (base : Nat) : Prop := get a x = .slice oa n cap ∧ M w base
end
end Go.Proofs.YtgjnllebnkjofaaDoor
namespace Go.Proofs.YtgjnllebnkjofaaDoor
set_option linter.all false
open Go.RowKit
set_option maxRecDepth 10000
section
variable {E : WEnv} {m k : Nat} {y0 y1 y2 y3 y4 y5 y6 y7 y8 y9 y10 y11 y12 y13 y14 y15 y16 y17 y18 y19 y20 y21 y22 y23 y24 y25 y26 y27 y28 y29 y30 y31 y32 y33 y34 y35 y36 y37 y38 y39 : TypeId} {q0 q1 q2 q3 q4 q5 q6 q7 q8 q9 q10 q11 q12 q13 q14 q15 q16 q17 q18 q19 q20 q21 q22 q23 q24 q25 q26 q27 q28 q29 q30 q31 q32 q33 q34 q35 q36 q37 q38 q39 : String} {e0 e1 e2 e3 e4 e5 e6 e7 e8 e9 e10 e11 e12 e13 e14 e15 e16 e17 e18 e19 e20 e21 e22 e23 e24 e25 e26 e27 e28 e29 e30 e31 e32 e33 e34 e35 e36 e37 e38 e39 : Array Edge} {r0 r1 r2 r3 r4 r5 : Nat}
def ML (E : WEnv) (of : K) (sub : List Fld) (l : List D) (oa : Option Addr) (w : World) (base : Nat) : Prop :=
  l = [] ∨ ∃ b cs T, oa = some ⟨b, 0, none⟩ ∧ b < base ∧ Blk w b cs T ∧
    match of with
    | .struct => l.length * ssz E.fl sub ≤ cs.length ∧ ∀ i x, l[i]? = some x → ∃ s : S, x = s.d ∧ ∃ v1 v2, ((cs.drop (i * ssz E.fl sub)).take (ssz E.fl sub)) = v1 ++ v2 ∧ RepL w (fun g => g < base) E.fl sub s.ds v1 ∧ RepT w (fun g => g < base) E.fl s.tags v2
    | k => l.length * ksz k ≤ cs.length ∧ ∀ i x, l[i]? = some x → RepK w (fun g => g < base) k x ((cs.drop (i * ksz k)).take (ksz k))
theorem ML.stable {of : K} {sub : List Fld} {l : List D} {oa : Option Addr} : ∀ w w' base, ML E of sub l oa w base → Chg (fun g => base ≤ g) w w' → base ≤ w.heap.size → ML E of sub l oa w' base := by
  intro w w' base h hc hb
  have st : Stay w w' (fun g => g < base) (fun g => g < base) := Stay.of hc fun n hn _ => by omega
  rcases h with h | ⟨b, cs, T, h1, h2, h3, h4⟩
  · exact .inl h
  · refine .inr ⟨b, cs, T, h1, h2, h3.chg hc (by omega), ?_⟩
    cases of <;> try (exact ⟨h4.1, fun i x hx => (h4.2 i x hx).stay st⟩)
    refine ⟨h4.1, fun i x hx => ?_⟩
    obtain ⟨s, k1, v1, v2, k2, k3, k4⟩ := h4.2 i x hx
    exact ⟨s, k1, v1, v2, k2, RepL.stay st k3, k4.stay st⟩
theorem PrL.stable {x : Nat} {oa : Option Addr} {n cap : Nat} {M : World → Nat → Prop} (hx : WS m E.T k x) (hM : ∀ w w' base, M w base → Chg (fun g => base ≤ g) w w' → base ≤ w.heap.size → M w' base) :
    Stable E m k (PrL x oa n cap M) (PrL x oa n cap M) :=
  fun _ _ _ _ _ h hk hc hb => ⟨(hk.slot _ hx).trans h.1, hM _ _ _ h.2 hc hb⟩
theorem PrL.put {x : Nat} {oa : Option Addr} {n cap : Nat} {M : World → Nat → Prop} {t : Nat} (h : t ≠ x) : ∀ a w base v, PrL x oa n cap M a w base → PrL x oa n cap M (a.put (some t) v) w base :=
  fun _ _ _ _ ⟨h1, h2⟩ => ⟨(zac h).trans h1, h2⟩
theorem wv_conv {x y t m' k' : Nat} {f : Fld} {d : D} {c : Code} {enc : Bs} (h : WrC E m' k' c (PrF E y f d) enc) (hE : E.safe m k ∧ m ≤ m' ∧ k ≤ k') (hfr : ∀ d ∈ [t, y], Fre E m k d) (hnd : [1, x, t, y].Nodup) :
    WrC E m k (.seq (.region r0 #[⟨some t, .move (.tmp x), y0, q0, e0, none⟩, ⟨some y, .assign (.tmp t), y1, q1, e1, none⟩] false) c) (PrF E x f d) enc := by
  obtain ⟨hE, hm, hk⟩ := hE
  simp only [List.nodup_cons, List.mem_cons, List.not_mem_nil, or_false, not_or, List.nodup_nil, and_true, not_false_eq_true] at hnd; simp only [List.mem_cons, List.not_mem_nil, or_false, forall_eq_or_imp, forall_eq, Fre] at hfr
  intro a w base v bs hwk hv hown hb hpre hlim
  have hN := hwk.1
  obtain ⟨val, g1, hr⟩ := hpre
  refine wp_seq_k fun K hK => ?_
  refine zag ?_
  refine zaQ ?_
  simp only [zah, zaj, zaK, zae, zac, zak, ne_eq, zai, hN, hnd, hfr, not_false_eq_true, g1]
  refine zaB ?_
  simp only [zah, zaj, zaK, zae, zac, zak, ne_eq, zai, hN, hnd, hfr, not_false_eq_true]
  refine zad (hK _ _ ?_)
  exact wr_go hm hk hE h hwk hv hown hb hlim (by ((repeat (with_reducible refine za3.put ?_ (by simp only [hfr, not_false_eq_true]) _)); with_reducible exact za3.refl _ _)) (by simp only [zah, zaj, zaK, zae, zac, zak, ne_eq, zai, hN, hnd, hfr, not_false_eq_true]) ⟨val, by simp only [zah, zaj, zaK, zae, zac, zak, ne_eq, zai, hN, hnd, hfr, not_false_eq_true], hr⟩
end
end Go.Proofs.YtgjnllebnkjofaaDoor
namespace Go.Proofs.YtgjnllebnkjofaaDoor
set_option linter.all false
open Go.RowKit
set_option maxRecDepth 10000
def fEnc (E : WEnv) (f : Fld) (d : D) : Bs := if decide (f.tag < 0) && f.has E.ver then encF E.flex E.ver f d else []
def slotB (N T m k sV sF : Nat) (fl : Bool) (wr rd : List Nat) : Bool :=
  decide (((sV < m ∧ sV ≠ 1) ∨ (T ≤ sV ∧ sV < k)) ∧ (fl = true → ((sF < m ∧ sF ≠ 1) ∨ (T ≤ sF ∧ sF < k)))) &&
  wr.all (fun d => decide (¬ ((d < m ∧ d ≠ 1) ∨ (T ≤ d ∧ d < k)) ∧ d < N)) && rd.all (fun d => decide ((d < m ∧ d ≠ 1) ∨ (T ≤ d ∧ d < k))) && decide ((1 :: (rd ++ wr)).Nodup) && decide (1 < T) && decide (1 < N)
abbrev WEnv.sl (E : WEnv) (m k : Nat) (wr rd : List Nat) : Bool := slotB E.N E.T m k E.sV E.sF E.fl wr rd
section
variable {E : WEnv} {m k : Nat} {y0 y1 y2 y3 y4 y5 y6 y7 y8 y9 y10 y11 y12 y13 y14 y15 y16 y17 y18 y19 y20 y21 y22 y23 y24 y25 y26 y27 y28 y29 y30 y31 y32 y33 y34 y35 y36 y37 y38 y39 : TypeId} {q0 q1 q2 q3 q4 q5 q6 q7 q8 q9 q10 q11 q12 q13 q14 q15 q16 q17 q18 q19 q20 q21 q22 q23 q24 q25 q26 q27 q28 q29 q30 q31 q32 q33 q34 q35 q36 q37 q38 q39 : String} {e0 e1 e2 e3 e4 e5 e6 e7 e8 e9 e10 e11 e12 e13 e14 e15 e16 e17 e18 e19 e20 e21 e22 e23 e24 e25 e26 e27 e28 e29 e30 e31 e32 e33 e34 e35 e36 e37 e38 e39 : Array Edge} {r0 r1 r2 r3 r4 r5 : Nat}
theorem sl_out {wr rd : List Nat} (h : E.sl m k wr rd = true) : E.safe m k ∧ (∀ d ∈ 1 :: wr, Fre E m k d) ∧ (∀ d ∈ rd, WS m E.T k d) ∧ (1 :: (rd ++ wr)).Nodup := by
  unfold WEnv.sl slotB at h
  simp only [Bool.and_eq_true, decide_eq_true_eq, List.all_eq_true] at h
  obtain ⟨⟨⟨⟨⟨⟨h1, h2⟩, h3⟩, h4⟩, h5⟩, h6⟩, h7⟩ := h
  refine ⟨⟨h1, h2⟩, fun d hd => ?_, fun d hd => h4 d hd, h5⟩
  rcases List.mem_cons.1 hd with rfl | hd
  · exact ⟨by unfold WS; omega, h7⟩
  · exact h3 d hd
def fTail (E : WEnv) (fs : List Fld) (s : S) (i : Nat) (tl : Bs) : Bs := encL E.flex E.ver (fs.drop i) (s.ds.drop i) ++ tl
theorem fTail_step {fs : List Fld} {s : S} {i : Nat} {tl : Bs} {f : Fld} {d : D} (hf : fs[i]? = some f) (hd : s.ds[i]? = some d) : fTail E fs s i tl = fEnc E f d ++ fTail E fs s (i + 1) tl := by
  unfold fTail fEnc
  have h1 := (List.getElem?_eq_some_iff.1 hf)
  have h2 := (List.getElem?_eq_some_iff.1 hd)
  obtain ⟨h1, e1⟩ := h1
  obtain ⟨h2, e2⟩ := h2
  rw [List.drop_eq_getElem_cons h1, List.drop_eq_getElem_cons h2, e1, e2]
  rw [encL, List.append_assoc]
theorem fTail_end {fs : List Fld} {s : S} {i : Nat} {tl : Bs} (h : fs.length ≤ i) : fTail E fs s i tl = tl := by
  unfold fTail
  rw [List.drop_of_length_le h]
  rfl
theorem PrS.at_d {sS k0 i : Nat} {fs : List Fld} {s : S} {f : Fld} {a : Act} {w : World} {base : Nat} (h : PrS E sS k0 fs s a w base) (hf : fs[i]? = some f) : ∃ d, s.ds[i]? = some d := by
  obtain ⟨B, p, _, h2, _⟩ := h
  obtain ⟨d, _, _, h3, _⟩ := h2.field hf
  exact ⟨d, h3⟩
theorem wr_next {sS k0 i : Nat} {fs : List Fld} {s : S} {f : Fld} {tl : Bs} {c1 c2 : Code} (hf : fs[i]? = some f) (hsl : E.sl m k [] [sS] = true)
    (h1 : ∀ d, s.ds[i]? = some d → WrC E m k c1 (PrS E sS k0 fs s) (fEnc E f d)) (h2 : WrC E m k c2 (PrS E sS k0 fs s) (fTail E fs s (i + 1) tl)) :
    WrC E m k (.seq c1 c2) (PrS E sS k0 fs s) (fTail E fs s i tl) := by
  intro a w base v bs hwk hv hown hb hpre hlim
  obtain ⟨d, hd⟩ := hpre.at_d hf
  rw [fTail_step hf hd] at hlim ⊢
  obtain ⟨hE, _, hr, _⟩ := sl_out hsl
  exact wr_seq hE (h1 d hd) h2 (fun _ _ _ h => h) (PrS.stable (hr sS (by simp))) a w base v bs hwk hv hown hb hpre hlim
theorem wr_tagged {sS k0 i : Nat} {fs : List Fld} {s : S} {f : Fld} {tl : Bs} {c : Code} (hf : fs[i]? = some f) (ht : decide (0 ≤ f.tag) = true)
    (h : WrC E m k c (PrS E sS k0 fs s) (fTail E fs s (i + 1) tl)) : WrC E m k c (PrS E sS k0 fs s) (fTail E fs s i tl) := by
  intro a w base v bs hwk hv hown hb hpre hlim
  obtain ⟨d, hd⟩ := hpre.at_d hf
  have e : fEnc E f d = [] := by
    have := of_decide_eq_true ht
    unfold fEnc; rw [if_neg]; simp; omega
  rw [fTail_step hf hd, e, List.nil_append] at hlim ⊢
  exact h a w base v bs hwk hv hown hb hpre hlim
theorem wr_last {sS k0 i : Nat} {fs : List Fld} {s : S} {f : Fld} {c1 : Code} (hf : fs[i]? = some f) (hl : decide (fs.length = i + 1) = true)
    (h1 : ∀ d, s.ds[i]? = some d → WrC E m k c1 (PrS E sS k0 fs s) (fEnc E f d)) : WrC E m k c1 (PrS E sS k0 fs s) (fTail E fs s i []) := by
  intro a w base v bs hwk hv hown hb hpre hlim
  obtain ⟨d, hd⟩ := hpre.at_d hf
  have := of_decide_eq_true hl
  rw [fTail_step hf hd, fTail_end (by omega), List.append_nil] at hlim ⊢
  exact h1 d hd a w base v bs hwk hv hown hb hpre hlim
theorem wr_end {sS k0 i : Nat} {fs : List Fld} {s : S} {tl : Bs} {c : Code} (hl : decide (fs.length ≤ i) = true) (h : WrC E m k c (PrS E sS k0 fs s) tl) : WrC E m k c (PrS E sS k0 fs s) (fTail E fs s i tl) := by
  rw [fTail_end (of_decide_eq_true hl)]; exact h
theorem wf_all {f : Fld} {d : D} {c : Code} {pre : Act → World → Nat → Prop} (hf : (decide (f.tag < 0) && decide (f.from_ ≤ 0) && decide (f.to < 0)) = true) (hv : 0 ≤ E.ver)
    (h : WrC E m k c pre (encF E.flex E.ver f d)) : WrC E m k c pre (fEnc E f d) := by
  simp only [Bool.and_eq_true, decide_eq_true_eq] at hf
  have e : (decide (f.tag < 0) && f.has E.ver) = true := by
    unfold Fld.has
    simp only [Bool.and_eq_true, Bool.or_eq_true, decide_eq_true_eq]
    omega
  unfold fEnc
  rw [if_pos e]; exact h
theorem wf_from {sS k0 t1 t2 u : Nat} {fs : List Fld} {s : S} {f : Fld} {d : D} {n : Int} {c : Code} (hf : (decide (f.tag < 0) && decide (f.from_ = n) && decide (f.to < 0)) = true)
    (hsl : E.sl m k [t1, t2] [sS] = true) (h : n ≤ E.ver → WrC E m k c (PrS E sS k0 fs s) (encF E.flex E.ver f d)) :
    WrC E m k (.seq (.region r0 #[⟨some t1, .move (.tmp E.sV), y0, q0, e0, none⟩, ⟨some t2, .binOp .geq u (.tmp t1) (.const (.int .i16 n)) u, y1, q1, e1, none⟩] false) (.cond (.tmp t2) c .skip)) (PrS E sS k0 fs s) (fEnc E f d) := by
  simp only [Bool.and_eq_true, decide_eq_true_eq] at hf
  have e : fEnc E f d = if n ≤ E.ver then encF E.flex E.ver f d else [] := by
    unfold fEnc Fld.has
    congr 1
    simp only [Bool.and_eq_true, Bool.or_eq_true, decide_eq_true_eq, eq_iff_iff]
    omega
  rw [e]
  obtain ⟨hE, hw, _, hnd⟩ := sl_out hsl
  simp only [List.nodup_cons, List.mem_cons, List.mem_append, List.cons_append, List.nil_append, List.not_mem_nil, or_false, not_or, List.nodup_nil, and_true, not_false_eq_true] at hnd
  exact wr_ifver h (PrS.put (by first | (simp only [hnd, not_false_eq_true, ne_eq]; done) | (intro e; simp [e] at hnd))) (PrS.put (by first | (simp only [hnd, not_false_eq_true, ne_eq]; done) | (intro e; simp [e] at hnd))) ⟨hE, hw t1 (by simp), hw t2 (by simp), (by first | (simp only [hnd, not_false_eq_true, ne_eq]; done) | (intro e; simp [e] at hnd)), (by first | (simp only [hnd, not_false_eq_true, ne_eq]; done) | (intro e; simp [e] at hnd))⟩
theorem wf_range {sS k0 t1 t2 t3 t4 t5 t6 u : Nat} {fs : List Fld} {s : S} {f : Fld} {d : D} {n n2 : Int} {c : Code} (hf : (decide (f.tag < 0) && decide (f.from_ = n) && decide (f.to = n2) && decide (0 ≤ n2)) = true)
    (hsl : E.sl m k [t1, t2, t3, t4, t5, t6] [sS] = true) (h : n ≤ E.ver → E.ver ≤ n2 → WrC E m k c (PrS E sS k0 fs s) (encF E.flex E.ver f d)) :
    WrC E m k (.seq (.region r0 #[⟨some t1, .move (.tmp E.sV), y0, q0, e0, none⟩, ⟨some t2, .binOp .geq u (.tmp t1) (.const (.int .i16 n)) u, y1, q1, e1, none⟩, ⟨some t3, .move (.tmp t2), y2, q2, e2, none⟩, ⟨some t4, .move (.tmp E.sV), y10, q10, e10, some (2, true)⟩, ⟨some t5, .binOp .leq u (.tmp t4) (.const (.int .i16 n2)) u, y11, q11, e11, some (2, true)⟩, ⟨some t6, .pick (.tmp t3) (.tmp t5) (.const (.bool false)), y3, q3, e3, none⟩] false) (.cond (.tmp t6) c .skip)) (PrS E sS k0 fs s) (fEnc E f d) := by
  simp only [Bool.and_eq_true, decide_eq_true_eq] at hf
  have e : fEnc E f d = if n ≤ E.ver ∧ E.ver ≤ n2 then encF E.flex E.ver f d else [] := by
    unfold fEnc Fld.has
    congr 1
    simp only [Bool.and_eq_true, Bool.or_eq_true, decide_eq_true_eq, eq_iff_iff]
    omega
  rw [e]
  obtain ⟨hE, hfr, hrd, hnd⟩ := sl_out hsl
  simp only [List.mem_cons, List.not_mem_nil, or_false, forall_eq_or_imp, forall_eq, Fre] at hrd
  simp only [List.nodup_cons, List.mem_cons, List.mem_append, List.cons_append, List.nil_append, List.not_mem_nil, or_false, not_or, List.nodup_nil, and_true, not_false_eq_true] at hnd
  simp only [List.mem_cons, List.not_mem_nil, or_false, forall_eq_or_imp, forall_eq, Fre] at hfr
  intro a w base v bs hwk hv hown hb hpre hlim
  have hN := hwk.1
  have hsV : ∀ t ∈ [t1, t2, t3, t4, t5, t6], t ≠ E.sV := by
    intro t ht e
    have h1 := hE.1
    simp only [List.mem_cons, List.not_mem_nil, or_false] at ht
    rcases ht with rfl | rfl | rfl | rfl | rfl | rfl <;> simp only [e, h1, not_true_eq_false, false_and, and_false] at hfr
  simp only [List.mem_cons, List.not_mem_nil, or_false, forall_eq_or_imp, forall_eq] at hsV
  refine wp_seq_k fun K hK => ?_
  refine zag ?_
  refine zaQ ?_
  rw [zah, hwk.2.2.1]
  refine wl_geq (by simp only [zah, zaj, zaK, zae, zac, zak, ne_eq, zai, hN, hnd, hfr, not_false_eq_true, sameK, decide_true]) ?_
  simp only [zah, zaj, zaK, zae, zac, zak, ne_eq, zai, hN, hnd, hfr, not_false_eq_true, cmp2]
  refine zaQ ?_
  simp only [zah, zaj, zaK, zae, zac, zak, ne_eq, zai, hN, hnd, hfr, not_false_eq_true]
  by_cases hc : n ≤ E.ver
  · rw [decide_eq_true hc]
    refine zal rfl rfl (by simp only [zah, zaj, zaK, zae, zac, zak, ne_eq, zai, hN, hnd, hfr, not_false_eq_true]) ?_
    refine zaQ ?_
    simp only [zah, zaj, zaK, zae, zac, zak, ne_eq, zai, hN, hnd, hfr, not_false_eq_true, hsV, hwk.2.2.1]
    refine zal rfl rfl (by simp only [zah, zaj, zaK, zae, zac, zak, ne_eq, zai, hN, hnd, hfr, not_false_eq_true]) ?_
    refine wl_leq (by simp only [zah, zaj, zaK, zae, zac, zak, ne_eq, zai, hN, hnd, hfr, not_false_eq_true, sameK, decide_true]) ?_
    simp only [zah, zaj, zaK, zae, zac, zak, ne_eq, zai, hN, hnd, hfr, not_false_eq_true, cmp2]
    refine zan (by simp only [zah, zaj, zaK, zae, zac, zak, ne_eq, zai, hN, hnd, hfr, not_false_eq_true]) ?_
    simp only [zah, zaj, zaK, zae, zac, zak, ne_eq, zai, hN, hnd, hfr, not_false_eq_true]
    refine zad (hK _ _ ?_)
    by_cases hc2 : E.ver ≤ n2
    · rw [if_pos ⟨hc, hc2⟩] at hlim ⊢
      rw [decide_eq_true hc2]
      exact wp_cond_true (by simp only [zah, zaj, zaK, zae, zac, zak, ne_eq, zai, hN, hnd, hfr, not_false_eq_true]) (wr_go (Nat.le_refl _) (Nat.le_refl _) hE (h hc hc2) hwk hv hown hb hlim (by ((repeat (with_reducible refine za3.put ?_ (by simp only [hfr, not_false_eq_true]) _)); with_reducible exact za3.refl _ _)) (by simp only [zah, zaj, zaK, zae, zac, zak, ne_eq, zai, hN, hnd, hfr, not_false_eq_true]) (PrS.put (by first | (simp only [hnd, not_false_eq_true, ne_eq]; done) | (intro e; simp [e] at hnd)) _ _ _ _ (PrS.put (by first | (simp only [hnd, not_false_eq_true, ne_eq]; done) | (intro e; simp [e] at hnd)) _ _ _ _ (PrS.put (by first | (simp only [hnd, not_false_eq_true, ne_eq]; done) | (intro e; simp [e] at hnd)) _ _ _ _ (PrS.put (by first | (simp only [hnd, not_false_eq_true, ne_eq]; done) | (intro e; simp [e] at hnd)) _ _ _ _ (PrS.put (by first | (simp only [hnd, not_false_eq_true, ne_eq]; done) | (intro e; simp [e] at hnd)) _ _ _ _ (PrS.put (by first | (simp only [hnd, not_false_eq_true, ne_eq]; done) | (intro e; simp [e] at hnd)) _ _ _ _ hpre)))))))
    · rw [if_neg (fun h => hc2 h.2)] at hlim ⊢
      rw [decide_eq_false hc2]
      exact wp_cond_false (by simp only [zah, zaj, zaK, zae, zac, zak, ne_eq, zai, hN, hnd, hfr, not_false_eq_true]) (wr_go (Nat.le_refl _) (Nat.le_refl _) hE (wr_skip (pre := fun _ _ _ => True)) hwk hv hown hb hlim (by ((repeat (with_reducible refine za3.put ?_ (by simp only [hfr, not_false_eq_true]) _)); with_reducible exact za3.refl _ _)) (by simp only [zah, zaj, zaK, zae, zac, zak, ne_eq, zai, hN, hnd, hfr, not_false_eq_true]) trivial)
  · rw [decide_eq_false hc]
    refine zao rfl rfl (by simp only [zah, zaj, zaK, zae, zac, zak, ne_eq, zai, hN, hnd, hfr, not_false_eq_true]; rfl) ?_
    refine zao rfl rfl (by simp only [zah, zaj, zaK, zae, zac, zak, ne_eq, zai, hN, hnd, hfr, not_false_eq_true]; rfl) ?_
    refine zam (by simp only [zah, zaj, zaK, zae, zac, zak, ne_eq, zai, hN, hnd, hfr, not_false_eq_true]) ?_
    simp only [zah, zaj, zaK, zae, zac, zak, ne_eq, zai, hN, hnd, hfr, not_false_eq_true]
    refine zad (hK _ _ ?_)
    rw [if_neg (fun h => hc h.1)] at hlim ⊢
    exact wp_cond_false (by simp only [zah, zaj, zaK, zae, zac, zak, ne_eq, zai, hN, hnd, hfr, not_false_eq_true]) (wr_go (Nat.le_refl _) (Nat.le_refl _) hE (wr_skip (pre := fun _ _ _ => True)) hwk hv hown hb hlim (by ((repeat (with_reducible refine za3.put ?_ (by simp only [hfr, not_false_eq_true]) _)); with_reducible exact za3.refl _ _)) (by simp only [zah, zaj, zaK, zae, zac, zak, ne_eq, zai, hN, hnd, hfr, not_false_eq_true]) trivial)
end
end Go.Proofs.YtgjnllebnkjofaaDoor
namespace Go.Proofs.YtgjnllebnkjofaaDoor
set_option linter.all false
open Go.RowKit
set_option maxRecDepth 10000
section
variable {E : WEnv} {m k : Nat} {y0 y1 y2 y3 y4 y5 y6 y7 y8 y9 y10 y11 y12 y13 y14 y15 y16 y17 y18 y19 y20 y21 y22 y23 y24 y25 y26 y27 y28 y29 y30 y31 y32 y33 y34 y35 y36 y37 y38 y39 : TypeId} {q0 q1 q2 q3 q4 q5 q6 q7 q8 q9 q10 q11 q12 q13 q14 q15 q16 q17 q18 q19 q20 q21 q22 q23 q24 q25 q26 q27 q28 q29 q30 q31 q32 q33 q34 q35 q36 q37 q38 q39 : String} {e0 e1 e2 e3 e4 e5 e6 e7 e8 e9 e10 e11 e12 e13 e14 e15 e16 e17 e18 e19 e20 e21 e22 e23 e24 e25 e26 e27 e28 e29 e30 e31 e32 e33 e34 e35 e36 e37 e38 e39 : Array Edge} {r0 r1 r2 r3 r4 r5 : Nat}
variable {a1 a2 a3 a4 a5 : Int} {of : K} {sub : List Fld} {d : D} {x t1 t2 t3 t4 t5 : Nat} {us : Array TypeId}
theorem wv_callS {f : Fld} {enc : Bs} {fn : FuncId} (hen : Enters Tryd.prog fn)
    (hc : ∀ w base val, RepF w (fun g => g < base) E.fl f d [val] → ∃ pr, AppC fn [val] enc pr ∧ pr w) (hsl : E.sl m k [t1, t2, t3] [x] = true) :
    WrC E m k (.region r0 #[⟨some t1, .move (.tmp 1), y0, q0, e0, none⟩, ⟨some t2, .move (.tmp x), y1, q1, e1, none⟩, ⟨some t3, .call { callee := .value (.func fn), args := #[.tmp t1, .tmp t2], argTypes := us }, y2, q2, e2, none⟩, ⟨some 1, .assign (.tmp t3), y3, q3, e3, none⟩] false) (PrF E x f d) enc := by
  obtain ⟨hE, hfr, hrd, hnd⟩ := sl_out hsl
  have h1 := hfr 1 (by simp)
  simp only [List.nodup_cons, List.mem_cons, List.mem_append, List.cons_append, List.nil_append, List.not_mem_nil, or_false, not_or, List.nodup_nil, and_true, not_false_eq_true] at hnd
  simp only [List.mem_cons, List.not_mem_nil, or_false, forall_eq_or_imp, forall_eq] at hfr
  exact wv_call (x := x) hen hc ⟨hfr.2.1, hfr.2.2.1, hfr.2.2.2, (by first | (simp only [hnd, not_false_eq_true, ne_eq]; done) | (intro e; simp [e] at hnd)), (by first | (simp only [hnd, not_false_eq_true, ne_eq]; done) | (intro e; simp [e] at hnd)), (by first | (simp only [hnd, not_false_eq_true, ne_eq]; done) | (intro e; simp [e] at hnd)), h1.1, h1.2⟩
theorem wv_i16 (hsl : E.sl m k [t1, t2, t3] [x] = true) :
    WrC E m k (.region r0 #[⟨some t1, .move (.tmp 1), y0, q0, e0, none⟩, ⟨some t2, .move (.tmp x), y1, q1, e1, none⟩, ⟨some t3, .call { callee := .value (.func 36), args := #[.tmp t1, .tmp t2], argTypes := us }, y2, q2, e2, none⟩, ⟨some 1, .assign (.tmp t3), y3, q3, e3, none⟩] false)
      (PrF E x (.mk .i16 a1 a2 a3 a4 a5 of sub) d) (encF E.flex E.ver (.mk .i16 a1 a2 a3 a4 a5 of sub) d) := by
  refine wv_callS (fun args w => Tryd.call36 args w) (fun w base val hr => ?_) hsl
  unfold RepF at hr
  dsimp only at hr
  cases d <;> first | exact hr.elim | skip
  simp only [RepK, List.cons.injEq, and_true] at hr
  subst hr
  exact ⟨_, AppendInt16_c _, trivial⟩
theorem wv_flexS {t : Nat} {f : Fld} {ca cb : Code} {enc : Bs} (hfl : E.fl = true) (hsl : E.sl m k [t] [x] = true)
    (ha : E.flex = true → WrC E m k ca (PrF E x f d) enc) (hb' : E.flex = false → WrC E m k cb (PrF E x f d) enc) :
    WrC E m k (.seq (.region r0 #[⟨some t, .move (.tmp E.sF), y0, q0, e0, none⟩] false) (.cond (.tmp t) ca cb)) (PrF E x f d) enc := by
  obtain ⟨hE, hfr, hrd, hnd⟩ := sl_out hsl
  simp only [List.nodup_cons, List.mem_cons, List.mem_append, List.cons_append, List.nil_append, List.not_mem_nil, or_false, not_or, List.nodup_nil, and_true, not_false_eq_true] at hnd
  exact wv_flex hfl ha hb' (PrF.put (by first | (simp only [hnd, not_false_eq_true, ne_eq]; done) | (intro e; simp [e] at hnd))) ⟨hE, hfr t (by simp), (by first | (simp only [hnd, not_false_eq_true, ne_eq]; done) | (intro e; simp [e] at hnd))⟩
theorem encF_text (h : a3 < 0) (l : Bs) : encF E.flex E.ver (.mk .text a1 a2 a3 a4 a5 of sub) (.str l) = encStr E.flex l := by
  unfold encF; dsimp only; rw [if_pos h]; rfl
theorem rep_text {w : World} {G : Nat → Prop} {fl : Bool} {val : Value} (h : a3 < 0) (hr : RepF w G fl (.mk .text a1 a2 a3 a4 a5 of sub) d [val]) : ∃ l, d = .str l ∧ val = .string ⟨l.toArray⟩ := by
  unfold RepF at hr
  dsimp only at hr
  rw [if_pos h] at hr
  cases d <;> first | exact hr.elim | skip
  simp only [RepK, List.cons.injEq, and_true] at hr
  exact ⟨_, rfl, hr⟩
theorem wv_string (h : decide (a3 < 0) = true) (hx : E.flex = false) (hsl : E.sl m k [t1, t2, t3] [x] = true) :
    WrC E m k (.region r0 #[⟨some t1, .move (.tmp 1), y0, q0, e0, none⟩, ⟨some t2, .move (.tmp x), y1, q1, e1, none⟩, ⟨some t3, .call { callee := .value (.func 39), args := #[.tmp t1, .tmp t2], argTypes := us }, y2, q2, e2, none⟩, ⟨some 1, .assign (.tmp t3), y3, q3, e3, none⟩] false)
      (PrF E x (.mk .text a1 a2 a3 a4 a5 of sub) d) (encF E.flex E.ver (.mk .text a1 a2 a3 a4 a5 of sub) d) := by
  refine wv_callS (fun args w => Tryd.call39 args w) (fun w base val hr => ?_) hsl
  obtain ⟨l, rfl, rfl⟩ := rep_text (of_decide_eq_true h) hr
  refine ⟨fun _ => True, ?_, trivial⟩
  rw [encF_text (of_decide_eq_true h), hx]
  exact AppendString_c l
theorem wf_load {sS k0 i T idx ty : Nat} {fs : List Fld} {s : S} {f : Fld} {c : Code} {enc : Bs}
    (hf : fs[i]? = some f) (hd : s.ds[i]? = some d) (hB : (fsz E.fl f == 1 && fieldB Tryd.prog T idx (k0 + foff E.fl fs i) 1 && scalB Tryd.prog ty) = true)
    (hsl : E.sl m k [t1, t2, t3, t4, x] [sS] = true) (hm : decide (m ≤ x + 1) = true) (h : WrC E (x + 1) k c (PrF E x f d) enc) :
    WrC E m k (.seq (.region r0 #[⟨some t1, .move (.tmp sS), y0, q0, e0, none⟩, ⟨some t2, .nilCheck (.tmp t1), y1, q1, e1, none⟩, ⟨some t3, .fieldAddr T (.tmp t2) idx, y2, q2, e2, none⟩, ⟨some t4, .load ty (.tmp t3), y3, q3, e3, none⟩, ⟨some x, .assign (.tmp t4), y4, q4, e4, none⟩] false) c) (PrS E sS k0 fs s) enc := by
  simp only [Bool.and_eq_true, beq_iff_eq] at hB
  obtain ⟨⟨b1, b2⟩, b4⟩ := hB
  obtain ⟨hE, hfr, hrd, hnd⟩ := sl_out hsl
  simp only [List.nodup_cons, List.mem_cons, List.mem_append, List.cons_append, List.nil_append, List.not_mem_nil, or_false, not_or, List.nodup_nil, and_true, not_false_eq_true] at hnd
  simp only [List.mem_cons, List.not_mem_nil, or_false, forall_eq_or_imp, forall_eq] at hfr
  exact wr_field hf hd b1 b2 rfl b4 ⟨hE, of_decide_eq_true hm, Nat.le_refl _, hfr.2.1, hfr.2.2.1, hfr.2.2.2.1, hfr.2.2.2.2.1, hfr.2.2.2.2.2, (by first | (simp only [hnd, not_false_eq_true, ne_eq]; done) | (intro e; simp [e] at hnd)), (by first | (simp only [hnd, not_false_eq_true, ne_eq]; done) | (intro e; simp [e] at hnd)), (by first | (simp only [hnd, not_false_eq_true, ne_eq]; done) | (intro e; simp [e] at hnd)), (by first | (simp only [hnd, not_false_eq_true, ne_eq]; done) | (intro e; simp [e] at hnd)), (by first | (simp only [hnd, not_false_eq_true, ne_eq]; done) | (intro e; simp [e] at hnd))⟩ h
end
end Go.Proofs.YtgjnllebnkjofaaDoor
namespace Go.Proofs.YtgjnllebnkjofaaDoor
set_option linter.all false
open Go.RowKit
set_option maxRecDepth 10000
def tagsEnc (E : WEnv) (fs : List Fld) (s : S) : Bs := if E.flex then zaY (zav E.flex E.ver fs s.ds).1 (zav E.flex E.ver fs s.ds).2 s.tags else []
def partEnc (E : WEnv) (fs : List Fld) (s : S) : Bs := fTail E fs s 0 (tagsEnc E fs s)
theorem partEnc_eq (E : WEnv) (fs : List Fld) (s : S) : partEnc E fs s = zaH E.flex E.ver fs s := by
  unfold partEnc fTail zaH tagsEnc; simp only [List.drop_zero]
section
variable {E : WEnv} {m k : Nat} {y0 y1 y2 y3 y4 y5 y6 y7 y8 y9 y10 y11 y12 y13 y14 y15 y16 y17 y18 y19 y20 y21 y22 y23 y24 y25 y26 y27 y28 y29 y30 y31 y32 y33 y34 y35 y36 y37 y38 y39 : TypeId} {q0 q1 q2 q3 q4 q5 q6 q7 q8 q9 q10 q11 q12 q13 q14 q15 q16 q17 q18 q19 q20 q21 q22 q23 q24 q25 q26 q27 q28 q29 q30 q31 q32 q33 q34 q35 q36 q37 q38 q39 : String} {e0 e1 e2 e3 e4 e5 e6 e7 e8 e9 e10 e11 e12 e13 e14 e15 e16 e17 e18 e19 e20 e21 e22 e23 e24 e25 e26 e27 e28 e29 e30 e31 e32 e33 e34 e35 e36 e37 e38 e39 : Array Edge} {r0 r1 r2 r3 r4 r5 : Nat}
variable {a1 a2 a3 a4 a5 : Int} {of : K} {sub : List Fld} {d : D} {x t1 t2 t3 t4 t5 t6 : Nat} {us : Array TypeId}
theorem wv_again {y : Nat} {f : Fld} {c : Code} {enc : Bs} (hsl : E.sl m k [t1, y] [x] = true) (hm : decide (m ≤ y + 1) = true) (h : WrC E (y + 1) k c (PrF E y f d) enc) :
    WrC E m k (.seq (.region r0 #[⟨some t1, .move (.tmp x), y0, q0, e0, none⟩, ⟨some y, .assign (.tmp t1), y1, q1, e1, none⟩] false) c) (PrF E x f d) enc := by
  obtain ⟨hE, hfr, hrd, hnd⟩ := sl_out hsl
  exact wv_conv h ⟨hE, of_decide_eq_true hm, Nat.le_refl _⟩ (fun d hd => hfr d (List.mem_cons_of_mem _ hd)) hnd
theorem wp_noflex {sS k0 : Nat} {fs : List Fld} {s : S} {c : Code} (hx : E.flex = false) (h : WrC E m k c (PrS E sS k0 fs s) (fTail E fs s 0 [])) : WrC E m k c (PrS E sS k0 fs s) (partEnc E fs s) := by
  unfold partEnc tagsEnc; rw [hx]; exact h
theorem wr_start {sS k0 : Nat} {fs : List Fld} {s : S} {c : Code} (h : WrC E m k c (PrS E sS k0 fs s) (fTail E fs s 0 (tagsEnc E fs s))) : WrC E m k c (PrS E sS k0 fs s) (partEnc E fs s) := h
def WrT (E : WEnv) (m k r : Nat) (c : Code) (pre : Act → World → Nat → Prop) (enc : Bs) : Prop :=
  ∀ (a : Act) (w : World) (base : Nat) (v : Value) (bs : Bs), WOK E a → get a 1 = v → Own eB w base v bs → base ≤ w.heap.size → pre a w base → bs.length + enc.length ≤ LIM →
    c.wp Tryd.prog (Fin r (App eB w base v (bs ++ enc))) a w
theorem wt_start {r sS k0 : Nat} {fs : List Fld} {s : S} {c : Code} (h : WrT E m k r c (PrS E sS k0 fs s) (fTail E fs s 0 (tagsEnc E fs s))) : WrT E m k r c (PrS E sS k0 fs s) (partEnc E fs s) := h
theorem wt_seq {r : Nat} {c1 c2 : Code} {pre : Act → World → Nat → Prop} {enc1 enc2 : Bs} (hE : E.safe m k) (h1 : WrC E m k c1 pre enc1) (h2 : WrT E m k r c2 pre enc2) (hs : Stable E m k pre pre) : WrT E m k r (.seq c1 c2) pre (enc1 ++ enc2) := by
  intro a w base v bs hok hv hown hb hpre hlim
  rw [List.length_append] at hlim
  refine wp_seq (wp_mono (h1 a w base v bs hok hv hown hb hpre (by omega)) ?_)
  intro e a1 w1 hq
  cases e <;> try exact hq.elim
  obtain ⟨hk, happ⟩ := hq
  have hc := happ.chgFrom hown
  refine wp_mono (h2 a1 w1 base _ _ (hok.keep hk hE.1 hE.2) rfl happ.own (Nat.le_trans hb hc.size) (hs _ _ _ _ _ hpre hk hc hb) (by rw [List.length_append]; omega)) ?_
  intro e a2 w2 hq
  cases e <;> simp only [Fin] at hq ⊢ <;> exact ⟨hq.1, by rw [← List.append_assoc]; exact happ.trans hq.2⟩
theorem wt_next {r sS k0 i : Nat} {fs : List Fld} {s : S} {f : Fld} {tl : Bs} {c1 c2 : Code} (hf : fs[i]? = some f) (hsl : E.sl m k [] [sS] = true)
    (h1 : ∀ d, s.ds[i]? = some d → WrC E m k c1 (PrS E sS k0 fs s) (fEnc E f d)) (h2 : WrT E m k r c2 (PrS E sS k0 fs s) (fTail E fs s (i + 1) tl)) :
    WrT E m k r (.seq c1 c2) (PrS E sS k0 fs s) (fTail E fs s i tl) := by
  intro a w base v bs hwk hv hown hb hpre hlim
  obtain ⟨d, hd⟩ := hpre.at_d hf
  rw [fTail_step hf hd] at hlim ⊢
  obtain ⟨hE, _, hr, _⟩ := sl_out hsl
  exact wt_seq hE (h1 d hd) h2 (PrS.stable (hr sS (by simp))) a w base v bs hwk hv hown hb hpre hlim
theorem wt_tagged {r sS k0 i : Nat} {fs : List Fld} {s : S} {f : Fld} {tl : Bs} {c : Code} (hf : fs[i]? = some f) (ht : decide (0 ≤ f.tag) = true)
    (h : WrT E m k r c (PrS E sS k0 fs s) (fTail E fs s (i + 1) tl)) : WrT E m k r c (PrS E sS k0 fs s) (fTail E fs s i tl) := by
  intro a w base v bs hwk hv hown hb hpre hlim
  obtain ⟨d, hd⟩ := hpre.at_d hf
  have e : fEnc E f d = [] := by
    have := of_decide_eq_true ht
    unfold fEnc; rw [if_neg]; simp; omega
  rw [fTail_step hf hd, e, List.nil_append] at hlim ⊢
  exact h a w base v bs hwk hv hown hb hpre hlim
theorem wt_ret {r t : Nat} {pre : Act → World → Nat → Prop} (ht : (decide (t < E.N) && decide (r < E.N)) = true) : WrT E m k r (.seq (.region r0 #[⟨some t, .move (.tmp 1), y0, q0, e0, none⟩, ⟨some r, .assign (.tmp t), y1, q1, e1, none⟩] false) .ret) pre [] := by
  simp only [Bool.and_eq_true, decide_eq_true_eq] at ht
  intro a w base v bs hok hv hown hb hpre hlim
  have hN := hok.1
  refine wp_seq_k fun K hK => ?_
  refine zag ?_
  refine zaQ ?_
  rw [zah, hv]
  refine zaB ?_
  rw [zah, zae (by rw [hN]; exact ht.1)]
  refine zad (hK _ _ ?_)
  refine wp_ret ⟨by rw [zab, zab]; exact hok.2.1, ?_⟩
  rw [zae (by rw [zai, hN]; exact ht.2), List.append_nil]
  exact App.refl hown
theorem wt_end {r sS k0 i : Nat} {fs : List Fld} {s : S} {c1 c2 : Code} (hl : decide (fs.length ≤ i) = true) (hsl : E.sl m k [] [sS] = true) (h1 : WrC E m k c1 (PrS E sS k0 fs s) (tagsEnc E fs s)) (h2 : WrT E m k r c2 (PrS E sS k0 fs s) []) :
    WrT E m k r (.seq c1 c2) (PrS E sS k0 fs s) (fTail E fs s i (tagsEnc E fs s)) := by
  rw [fTail_end (of_decide_eq_true hl)]
  obtain ⟨hE, _, hr, _⟩ := sl_out hsl
  have := wt_seq hE h1 h2 (PrS.stable (hr sS (by simp)))
  rwa [List.append_nil] at this
theorem wt_fin {r sS k0 i : Nat} {fs : List Fld} {s : S} {c2 : Code} (hl : decide (fs.length ≤ i) = true) (hx : E.flex = false) (h2 : WrT E m k r c2 (PrS E sS k0 fs s) []) :
    WrT E m k r c2 (PrS E sS k0 fs s) (fTail E fs s i (tagsEnc E fs s)) := by
  rw [fTail_end (of_decide_eq_true hl)]
  unfold tagsEnc; rw [hx]; exact h2
end
end Go.Proofs.YtgjnllebnkjofaaDoor
