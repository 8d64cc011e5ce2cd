import Derived.Test.YtojpodeljpfgaabDoorZK
import Derived.Test.YtojpodeljpfgaabDoorZA
import Derived.Test.YtojpodeljpfgaabDoorZT
/-
What the proofs of the laws rest on, part ZW.
-/
namespace Go.Proofs.YtojpodeljpfgaabDoor
set_option linter.all false
open Go.RowKit
set_option maxRecDepth 10000
structure WEnv where
  N : Nat
  T : Nat
  sV : Nat
  sF : Nat
  ver : Int
  flex : Bool
  fl : Bool
def WS (m T k : Nat) (t : Nat) : Prop := (t < m ∧ t ≠ 1) ∨ (T ≤ t ∧ t < k)
instance (m T k t : Nat) : Decidable (WS m T k t) := inferInstanceAs (Decidable (_ ∨ _))
def Fre (E : WEnv) (m k d : Nat) : Prop := ¬ WS m E.T k d ∧ d < E.N
instance (E : WEnv) (m k d : Nat) : Decidable (Fre E m k d) := inferInstanceAs (Decidable (_ ∧ _))
theorem WS.mono {m m' T k k' t : Nat} (h : m ≤ m') (h2 : k ≤ k') (hs : WS m T k t) : WS m' T k' t := by
  unfold WS at *; omega
def WOK (E : WEnv) (a : Act) : Prop := a.tmps.size = E.N ∧ a.defers = [] ∧ get a E.sV = .int .i16 E.ver ∧ (E.fl = true → get a E.sF = .bool E.flex)
theorem WOK.keep {E : WEnv} {S : Nat → Prop} {a a' : Act} (h : WOK E a) (k : zam S a a') (hv : S E.sV) (hf : E.fl = true → S E.sF) : WOK E a' :=
  ⟨k.size.trans h.1, k.defers.trans h.2.1, (k.slot _ hv).trans h.2.2.1, fun e => (k.slot _ (hf e)).trans (h.2.2.2 e)⟩
def WEnv.safe (E : WEnv) (m k : Nat) : Prop := WS m E.T k E.sV ∧ (E.fl = true → WS m E.T k E.sF)
instance (E : WEnv) (m k : Nat) : Decidable (E.safe m k) := inferInstanceAs (Decidable (_ ∧ _))
def WQ (S : Nat → Prop) (a : Act) (w : World) (base : Nat) (v : Value) (bs : Bs) : Exit → Act → World → Prop
  | .normal, a', w' => zam S a a' ∧ App eB w base v bs (get a' 1) w'
  | _, _, _ => False
def WrC (E : WEnv) (m k : Nat) (c : Code) (pre : Act → World → Nat → Prop) (enc : Bs) : Prop :=
  ∀ (a : Act) (w : World) (base : Nat) (v : Value) (bs : Bs), WOK E a → get a 1 = v → Own eB w base v bs → base ≤ w.heap.size → pre a w base → bs.length + enc.length ≤ LIM →
    c.wp Tryd.prog (WQ (WS m E.T k) a w base v (bs ++ enc)) a w
theorem App.refl {w : World} {base : Nat} {v : Value} {bs : Bs} (h : Own eB w base v bs) : App eB w base v bs v w := ⟨h, Chg.refl _ _, .inl rfl⟩
def Stable (E : WEnv) (m k : Nat) (pre pre' : Act → World → Nat → Prop) : Prop :=
  ∀ a w base a' w', pre a w base → zam (WS m E.T k) a a' → Chg (fun n => base ≤ n) w w' → base ≤ w.heap.size → pre' a' w' base
theorem wr_seq {E : WEnv} {m k : Nat} {c1 c2 : Code} {pre pre1 pre2 : Act → World → Nat → Prop} {enc1 enc2 : Bs} (hE : E.safe m k)
    (h1 : WrC E m k c1 pre1 enc1) (h2 : WrC E m k c2 pre2 enc2) (hp : ∀ a w base, pre a w base → pre1 a w base) (hs : Stable E m k pre pre2) : WrC E m k (.seq c1 c2) pre (enc1 ++ enc2) := by
  intro a w base v bs hok hv hown hb hpre hlim
  rw [List.length_append] at hlim
  refine wp_seq (wp_mono (h1 a w base v bs hok hv hown hb (hp _ _ _ hpre) (by omega)) ?_)
  intro e a1 w1 hq
  cases e <;> try exact hq.elim
  obtain ⟨hk, happ⟩ := hq
  have hc := happ.chgFrom hown
  refine wp_mono (h2 a1 w1 base _ _ (hok.keep hk hE.1 hE.2) rfl happ.own (Nat.le_trans hb hc.size) (hs _ _ _ _ _ hpre hk hc hb) (by rw [List.length_append]; omega)) ?_
  intro e a2 w2 hq
  cases e <;> try exact hq.elim
  obtain ⟨hk2, happ2⟩ := hq
  refine ⟨hk.trans hk2, ?_⟩
  rw [← List.append_assoc]
  exact happ.trans happ2
theorem wr_skip {E : WEnv} {m k : Nat} {pre : Act → World → Nat → Prop} : WrC E m k .skip pre [] := by
  intro a w base v bs hok hv hown hb hpre hlim
  refine wp_skip ⟨zam.refl _ _, ?_⟩
  rw [hv, List.append_nil]
  exact App.refl hown
section
variable {E : WEnv} {m k : Nat} {y0 y1 y2 y3 y4 y5 y6 y7 y8 y9 : TypeId} {q0 q1 q2 q3 q4 q5 q6 q7 q8 q9 : String} {e0 e1 e2 e3 e4 e5 e6 e7 e8 e9 : Array Edge} {r0 r1 r2 r3 r4 : Nat}
theorem wr_go {c : Code} {pre : Act → World → Nat → Prop} {enc : Bs} {m' k' : Nat} (hm : m ≤ m') (hk : k ≤ k') (hE : E.safe m k) (h : WrC E m' k' c pre enc) {a a1 : Act} {w : World} {base : Nat} {v : Value} {bs : Bs}
    (hok : WOK E a) (hv : get a 1 = v) (hown : Own eB w base v bs) (hb : base ≤ w.heap.size) (hlim : bs.length + enc.length ≤ LIM)
    (hkp : zam (WS m E.T k) a a1) (h1 : get a1 1 = get a 1) (hpre : pre a1 w base) : c.wp Tryd.prog (WQ (WS m E.T k) a w base v (bs ++ enc)) a1 w := by
  refine wp_mono (h a1 w base v bs (hok.keep hkp hE.1 hE.2) (h1.trans hv) hown hb hpre hlim) ?_
  intro e a2 w2 hq
  cases e <;> first | exact hq.elim | exact ⟨hkp.trans (hq.1.mono fun t ht => ht.mono hm hk), hq.2⟩
def PrS (E : WEnv) (sS k0 : Nat) (fs : List Fld) (s : S) (a : Act) (w : World) (base : Nat) : Prop :=
  ∃ B p, get a sS = .pointer (some ⟨B, p, none⟩) ∧ At w (fun g => g < base) E.fl fs s B (p + k0) ∧ B < base
theorem PrS.stable {sS k0 : Nat} {fs : List Fld} {s : S} (h : WS m E.T k sS) : Stable E m k (PrS E sS k0 fs s) (PrS E sS k0 fs s) := by
  rintro a w base a' w' ⟨B, p, h1, h2, h3⟩ hk hc hb
  exact ⟨B, p, (hk.slot _ h).trans h1, h2.stay (Stay.of hc fun n hn _ => by omega) (hc.block B (by omega) (by omega)), h3⟩
def PrF (E : WEnv) (x : Nat) (f : Fld) (d : D) (a : Act) (w : World) (base : Nat) : Prop :=
  ∃ val, get a x = val ∧ RepF w (fun g => g < base) E.fl f d [val]
theorem seg1 {l : List Value} {o : Nat} (h : o + 1 ≤ l.length) : ∃ v, l[o]? = some v ∧ (l.drop o).take 1 = [v] := by
  have ho : o < l.length := by omega
  refine ⟨l[o], by simp [ho], ?_⟩
  rw [List.drop_eq_getElem_cons ho, List.take_succ_cons, List.take_zero]
theorem wr_field {sS k0 i T idx ty x t1 t2 t3 t4 m' k' off n : Nat} {fs : List Fld} {s : S} {f : Fld} {d : D} {c : Code} {enc : Bs}
    (hf : fs[i]? = some f) (hd : s.ds[i]? = some d) (h1 : fsz E.fl f = 1) (hF : zaR Tryd.prog T idx off n = true) (ho : off = k0 + foff E.fl fs i) (hty : scalB Tryd.prog ty = true)
    (hsl : E.safe m k ∧ m ≤ m' ∧ k ≤ k' ∧ Fre E m k t1 ∧ Fre E m k t2 ∧ Fre E m k t3 ∧ Fre E m k t4 ∧ Fre E m k x ∧ t1 ≠ 1 ∧ t2 ≠ 1 ∧ t3 ≠ 1 ∧ t4 ≠ 1 ∧ x ≠ 1)
    (h : WrC E m' k' c (PrF E x f d) enc) :
    WrC E m k (.seq (.region r0 #[⟨some t1, .move (.tmp sS), y0, q0, e0, none⟩, ⟨some t2, .nilCheck (.tmp t1), y1, q1, e1, none⟩, ⟨some t3, .fieldAddr T (.tmp t2) idx, y2, q2, e2, none⟩, ⟨some t4, .load ty (.tmp t3), y3, q3, e3, none⟩, ⟨some x, .assign (.tmp t4), y4, q4, e4, none⟩] false) c) (PrS E sS k0 fs s) enc := by
  obtain ⟨hE, hm, hk, f1, f2, f3, f4, fx, n1, n2, n3, n4, nx⟩ := hsl
  intro a w base v bs hok hv hown hb hpre hlim
  obtain ⟨B, p, g1, hat, hB⟩ := hpre
  obtain ⟨d', cs, Tb, k1, k2, k3, k4⟩ := hat.field hf
  rw [hd] at k1; cases k1
  rw [h1] at k3 k4
  obtain ⟨val, hval, hseg⟩ := seg1 (by omega : (p + k0 + foff E.fl fs i) + 1 ≤ cs.length)
  rw [hseg] at k4
  refine wp_seq_k fun K hK => ?_
  refine zai ?_
  refine zal ?_
  rw [zac, g1]
  refine zaI (p := ⟨B, p, none⟩) (by rw [zac, zaa (by rw [hok.1]; exact f1.2)]) ?_
  refine zaE (b := B) (o := p) hF (by rw [zac, zaa (by rw [zae, hok.1]; exact f2.2)]) ?_
  refine wl_load hty (by rw [zac, zaa (by rw [zae, zae, hok.1]; exact f3.2)]) k2 (v := val) (by rw [ho, ← Nat.add_assoc]; exact hval) ?_
  refine zak ?_
  rw [zac, zaa (by rw [zae, zae, zae, hok.1]; exact f4.2)]
  refine zah (hK _ _ ?_)
  refine wr_go hm hk hE h hok hv hown hb hlim (((((zam.refl _ _).put f1.1 _).put f2.1 _).put f3.1 _).put f4.1 _ |>.put fx.1 _) ?_ ⟨val, zaa (by simp only [zae, hok.1]; exact fx.2), k4⟩
  rw [zab nx, zab n4, zab n3, zab n2, zab n1]
theorem wv_callG {x t1 t2 t3 : Nat} {f : Fld} {d : D} {enc : Bs} {fn : FuncId} {ts : Array TypeId} (hen : zaK Tryd.prog fn)
    (hc : ∀ w base v bs val, RepF w (fun g => g < base) E.fl f d [val] → Own eB w base v bs → bs.length + enc.length ≤ LIM → base ≤ w.heap.size → zaD Tryd.prog fn (v :: [val]).toArray w (App eB w base v (bs ++ enc)))
    (hsl : Fre E m k t1 ∧ Fre E m k t2 ∧ Fre E m k t3 ∧ t1 ≠ 1 ∧ t1 ≠ t2 ∧ t1 ≠ x ∧ ¬ WS m E.T k 1 ∧ 1 < E.N) :
    WrC E m k (.region r0 #[⟨some t1, .move (.tmp 1), y0, q0, e0, none⟩, ⟨some t2, .move (.tmp x), y1, q1, e1, none⟩, ⟨some t3, .call { callee := .value (.func fn), args := #[.tmp t1, .tmp t2], argTypes := ts }, y2, q2, e2, none⟩, ⟨some 1, .assign (.tmp t3), y3, q3, e3, none⟩] false) (PrF E x f d) enc := by
  obtain ⟨f1, f2, f3, n1, n12, n1x, hw1, hN1⟩ := hsl
  intro a w base v bs hok hv hown hb hpre hlim
  obtain ⟨val, g1, hr⟩ := hpre
  refine zai ?_
  refine zal ?_
  refine zal ?_
  rw [zac, zac, hv, zab n1x, g1]
  refine zaH (R := App eB w base v (bs ++ enc)) hen ?_ ?_
  · have e1 : (#[Operand.tmp t1, Operand.tmp t2].map ((a.put (some t1) v).put (some t2) val).eval) = (v :: [val]).toArray := by
      simp only [List.map_toArray, List.map_cons, List.map_nil, zac]
      rw [zaa (by rw [zae, hok.1]; exact f2.2), zab (Ne.symm n12), zaa (by rw [hok.1]; exact f1.2)]
    rw [e1]
    exact hc w base v bs val hr hown hlim hb
  intro v' w' ha
  refine zak ?_
  rw [zac, zaa (by simp only [zae, hok.1]; exact f3.2)]
  refine zah ⟨((((zam.refl _ _).put f1.1 _).put f2.1 _).put f3.1 _).put hw1 _, ?_⟩
  rw [zaa (by simp only [zae, hok.1]; exact hN1)]
  exact ha
theorem wv_call {x t1 t2 t3 : Nat} {f : Fld} {d : D} {enc : Bs} {fn : FuncId} {ts : Array TypeId} (hen : zaK Tryd.prog fn)
    (hc : ∀ w base val, RepF w (fun g => g < base) E.fl f d [val] → ∃ pr, AppC fn [val] enc pr ∧ pr w)
    (hsl : Fre E m k t1 ∧ Fre E m k t2 ∧ Fre E m k t3 ∧ t1 ≠ 1 ∧ t1 ≠ t2 ∧ t1 ≠ x ∧ ¬ WS m E.T k 1 ∧ 1 < E.N) :
    WrC E m k (.region r0 #[⟨some t1, .move (.tmp 1), y0, q0, e0, none⟩, ⟨some t2, .move (.tmp x), y1, q1, e1, none⟩, ⟨some t3, .call { callee := .value (.func fn), args := #[.tmp t1, .tmp t2], argTypes := ts }, y2, q2, e2, none⟩, ⟨some 1, .assign (.tmp t3), y3, q3, e3, none⟩] false) (PrF E x f d) enc :=
  wv_callG hen (fun w base v bs val hr ho hl hb => by
    obtain ⟨pr, happ, hpr⟩ := hc w base val hr
    exact happ w base v bs ho hl hb hpr) hsl
theorem wv_flex {t : Nat} {ca cb : Code} {pre : Act → World → Nat → Prop} {enc : Bs} (hfl : E.fl = true)
    (ha : E.flex = true → WrC E m k ca pre enc) (hb' : E.flex = false → WrC E m k cb pre enc) (hp : ∀ a w base v, pre a w base → pre (a.put (some t) v) w base)
    (hsl : E.safe m k ∧ Fre E m k t ∧ t ≠ 1) :
    WrC E m k (.seq (.region r0 #[⟨some t, .move (.tmp E.sF), y0, q0, e0, none⟩] false) (.cond (.tmp t) ca cb)) pre enc := by
  obtain ⟨hE, f1, n1⟩ := hsl
  intro a w base v bs hok hv hown hb hpre hlim
  refine wp_seq_k fun K hK => ?_
  refine zai ?_
  refine zal ?_
  rw [zac, hok.2.2.2 hfl]
  refine zah (hK _ _ ?_)
  have hkp : zam (WS m E.T k) a (a.put (some t) (.bool E.flex)) := (zam.refl _ _).put f1.1 _
  have hev : (a.put (some t) (.bool E.flex)).eval (.tmp t) = .bool E.flex := by rw [zac, zaa (by rw [hok.1]; exact f1.2)]
  cases hx : E.flex with
  | true =>
    rw [hx] at hev hkp
    exact wp_cond_true hev (wr_go (Nat.le_refl _) (Nat.le_refl _) hE (ha hx) hok hv hown hb hlim hkp (zab n1) (hp _ _ _ _ hpre))
  | false =>
    rw [hx] at hev hkp
    exact wp_cond_false hev (wr_go (Nat.le_refl _) (Nat.le_refl _) hE (hb' hx) hok hv hown hb hlim hkp (zab n1) (hp _ _ _ _ hpre))
theorem PrF.put {x : Nat} {f : Fld} {d : D} {t : Nat} (h : t ≠ x) : ∀ a w base v, PrF E x f d a w base → PrF E x f d (a.put (some t) v) w base := by
  rintro a w base v ⟨val, h1, h2⟩
  exact ⟨val, (zab h).trans h1, h2⟩
theorem PrS.put {sS k0 : Nat} {fs : List Fld} {s : S} {t : Nat} (h : t ≠ sS) : ∀ a w base v, PrS E sS k0 fs s a w base → PrS E sS k0 fs s (a.put (some t) v) w base := by
  rintro a w base v ⟨B, p, h1, h2⟩
  exact ⟨B, p, (zab h).trans h1, h2⟩
theorem wr_ifver {t1 t2 : Nat} {u : Nat} {c : Code} {n : Int} {pre : Act → World → Nat → Prop} {enc : Bs}
    (h : n ≤ E.ver → WrC E m k c pre enc) (hp : ∀ a w base v, pre a w base → pre (a.put (some t1) v) w base) (hp2 : ∀ a w base v, pre a w base → pre (a.put (some t2) v) w base)
    (hsl : E.safe m k ∧ Fre E m k t1 ∧ Fre E m k t2 ∧ t1 ≠ 1 ∧ t2 ≠ 1) :
    WrC E m k (.seq (.region r0 #[⟨some t1, .move (.tmp E.sV), y0, q0, e0, none⟩, ⟨some t2, .binOp .geq u (.tmp t1) (.const (.int .i16 n)) u, y1, q1, e1, none⟩] false) (.cond (.tmp t2) c .skip)) pre (if n ≤ E.ver then enc else []) := by
  obtain ⟨hE, f1, f2, n1, n2⟩ := hsl
  intro a w base v bs hok hv hown hb hpre hlim
  refine wp_seq_k fun K hK => ?_
  refine zai ?_
  refine zal ?_
  rw [zac, hok.2.2.1]
  have hx : (a.put (some t1) (.int .i16 E.ver)).eval (.tmp t1) = .int .i16 E.ver := by rw [zac, zaa (by rw [hok.1]; exact f1.2)]
  refine wl_geq (by rw [hx]; rfl) ?_
  rw [hx]
  simp only [zaf, cmp2]
  refine zah (hK _ _ ?_)
  have hkp : zam (WS m E.T k) a ((a.put (some t1) (.int .i16 E.ver)).put (some t2) (.bool (decide (n ≤ E.ver)))) := ((zam.refl _ _).put f1.1 _).put f2.1 _
  have hev : ((a.put (some t1) (.int .i16 E.ver)).put (some t2) (.bool (decide (n ≤ E.ver)))).eval (.tmp t2) = .bool (decide (n ≤ E.ver)) := by rw [zac, zaa (by rw [zae, hok.1]; exact f2.2)]
  by_cases hc : n ≤ E.ver
  · rw [if_pos hc] at hlim ⊢
    rw [decide_eq_true hc] at hev hkp ⊢
    exact wp_cond_true hev (wr_go (Nat.le_refl _) (Nat.le_refl _) hE (h hc) hok hv hown hb hlim hkp ((zab n2).trans (zab n1)) (hp2 _ _ _ _ (hp _ _ _ _ hpre)))
  · rw [if_neg hc] at hlim ⊢
    rw [decide_eq_false hc] at hev hkp ⊢
    exact wp_cond_false hev (wr_go (Nat.le_refl _) (Nat.le_refl _) hE wr_skip hok hv hown hb hlim hkp ((zab n2).trans (zab n1)) (hp2 _ _ _ _ (hp _ _ _ _ hpre)))
end
end Go.Proofs.YtojpodeljpfgaabDoor
namespace Go.Proofs.YtojpodeljpfgaabDoor
set_option linter.all false
open Go.RowKit
set_option maxRecDepth 10000
section
variable {E : WEnv} {m k : Nat} {y0 y1 y2 y3 y4 y5 y6 y7 y8 y9 y10 y11 y12 y13 y14 y15 y16 y17 y18 y19 y20 y21 y22 y23 y24 y25 y26 y27 y28 y29 y30 y31 y32 y33 y34 y35 y36 y37 y38 y39 : TypeId} {q0 q1 q2 q3 q4 q5 q6 q7 q8 q9 q10 q11 q12 q13 q14 q15 q16 q17 q18 q19 q20 q21 q22 q23 q24 q25 q26 q27 q28 q29 q30 q31 q32 q33 q34 q35 q36 q37 q38 q39 : String} {e0 e1 e2 e3 e4 e5 e6 e7 e8 e9 e10 e11 e12 e13 e14 e15 e16 e17 e18 e19 e20 e21 e22 e23 e24 e25 e26 e27 e28 e29 e30 e31 e32 e33 e34 e35 e36 e37 e38 e39 : Array Edge} {r0 r1 r2 r3 r4 r5 : Nat}
theorem wr_tags {sS k0 t1 t2 t3 t4 t5 t6 t7 t8 u1 u2 u3 u4 u5 T T2 idx idx2 sl du off off2 : Nat} {us us2 us3 : Array TypeId} {fs : List Fld} {s : S}
    (hfl : E.fl = true) (hF : zaR Tryd.prog T idx off 1 = true) (ho : off = k0 + lsz true fs) (hF2 : zaR Tryd.prog T2 idx2 off2 1 = true) (ho2 : off2 = k0 + lsz true fs)
    (hcv : someB Tryd.prog sl = true ∧ isIntT Tryd.prog du = true ∧ kindOf Tryd.prog du = .u32)
    (hE : E.safe m k ∧ WS m E.T k sS) (hfr : ∀ d ∈ [1, t1, t2, t3, t4, t5, t6, t7, t8, u1, u2, u3, u4, u5], Fre E m k d) (hnd : [1, sS, t1, t2, t3, t4, t5, t6, t7, t8, u1, u2, u3, u4, u5].Nodup) :
    WrC E m k (.seq (.region r0 #[⟨some t1, .move (.tmp 1), y0, q0, e0, none⟩, ⟨some t2, .move (.tmp sS), y1, q1, e1, none⟩, ⟨some t3, .nilCheck (.tmp t2), y2, q2, e2, none⟩, ⟨some t4, .fieldAddr T (.tmp t3) idx, y3, q3, e3, none⟩,
        ⟨some t5, .call { callee := .value (.func 22), args := #[.tmp t4], argTypes := us }, y4, q4, e4, none⟩, ⟨some t6, .convert sl du (.tmp t5), y5, q5, e5, none⟩,
        ⟨some t7, .binOp .add du (.const (.int .u32 0)) (.tmp t6) du, y6, q6, e6, none⟩, ⟨some t8, .call { callee := .value (.func 21), args := #[.tmp t1, .tmp t7], argTypes := us2 }, y7, q7, e7, none⟩, ⟨some 1, .assign (.tmp t8), y8, q8, e8, none⟩] false)
      (.region r1 #[⟨some u1, .move (.tmp sS), y9, q9, e9, none⟩, ⟨some u2, .nilCheck (.tmp u1), y10, q10, e10, none⟩, ⟨some u3, .fieldAddr T2 (.tmp u2) idx2, y11, q11, e11, none⟩, ⟨some u4, .move (.tmp 1), y12, q12, e12, none⟩,
        ⟨some u5, .call { callee := .value (.func 23), args := #[.tmp u3, .tmp u4], argTypes := us3 }, y13, q13, e13, none⟩, ⟨some 1, .assign (.tmp u5), y14, q14, e14, none⟩] false)) (PrS E sS k0 fs s) (zaM 0 [] s.tags) := by
  obtain ⟨hE, hS⟩ := hE
  simp only [List.nodup_cons, List.mem_cons, List.not_mem_nil, or_false, not_or, List.nodup_nil, and_true, not_false_eq_true] at hnd; simp only [List.mem_cons, List.not_mem_nil, or_false, forall_eq_or_imp, forall_eq, Fre] at hfr
  intro a w base v bs hwk hv hown hb hpre hlim
  have hN := hwk.1
  obtain ⟨B, p, g1, hat, hB⟩ := hpre
  rw [hfl] at hat
  obtain ⟨mm, cs, Tb, k1, k2, k3, hok⟩ := hat.tags
  rw [show p + k0 + lsz true fs = p + off by omega] at k2
  have ho3 : off2 = off := by omega
  have hml : s.tags.length % 4294967296 < 4294967296 := Nat.mod_lt _ (by omega)
  simp only [zaM, Nat.zero_add, List.nil_append, List.length_append] at hlim ⊢
  refine wp_seq_k fun K hK => ?_
  refine zai ?_
  refine zal ?_
  refine zal ?_
  simp only [zac, zaf, zag, zaa, zab, zad, ne_eq, zae, hN, hnd, hfr, not_false_eq_true, g1, hv]
  refine zaI (p := ⟨B, p, none⟩) (by simp only [zac, zaf, zag, zaa, zab, zad, ne_eq, zae, hN, hnd, hfr, not_false_eq_true]) ?_
  refine zaE (b := B) (o := p) hF (by simp only [zac, zaf, zag, zaa, zab, zad, ne_eq, zae, hN, hnd, hfr, not_false_eq_true]) ?_
  refine zaH (fun args w => Tryd.call22 args w) (by simp only [List.map_toArray, List.map_cons, List.map_nil]; simp only [zac, zaf, zag, zaa, zab, zad, ne_eq, zae, hN, hnd, hfr, not_false_eq_true]; exact TagsLen_c k1 k2 k3) ?_
  rintro x w1 ⟨rfl, rfl⟩
  refine wl_conv hcv.1 hcv.2.1 (by simp only [zac, zaf, zag, zaa, zab, zad, ne_eq, zae, hN, hnd, hfr, not_false_eq_true, isI]) ?_
  simp only [zac, zaf, zag, zaa, zab, zad, ne_eq, zae, hN, hnd, hfr, not_false_eq_true, cvt, hcv.2.2, u32_mod]
  refine wl_add (by simp only [zac, zaf, zag, zaa, zab, zad, ne_eq, zae, hN, hnd, hfr, not_false_eq_true, sameK, decide_true]) ?_
  simp only [zac, zaf, zag, zaa, zab, zad, ne_eq, zae, hN, hnd, hfr, not_false_eq_true, add2, Int.zero_add, u32_id (s.tags.length % 4294967296) hml]
  refine wl_callApp (fun args w => Tryd.call21 args w) (zaU (s.tags.length % 4294967296) hml) (by simp only [List.map_toArray, List.map_cons, List.map_nil]; simp only [zac, zaf, zag, zaa, zab, zad, ne_eq, zae, hN, hnd, hfr, not_false_eq_true]) hown (by omega) hb trivial ?_
  intro v1 w2 happ
  refine zak ?_
  simp only [zac, zaf, zag, zaa, zab, zad, ne_eq, zae, hN, hnd, hfr, not_false_eq_true]
  refine zah (hK _ _ ?_)
  have hc := happ.chgFrom hown
  refine zai ?_
  refine zal ?_
  simp only [zac, zaf, zag, zaa, zab, zad, ne_eq, zae, hN, hnd, hfr, not_false_eq_true, g1]
  refine zaI (p := ⟨B, p, none⟩) (by simp only [zac, zaf, zag, zaa, zab, zad, ne_eq, zae, hN, hnd, hfr, not_false_eq_true]) ?_
  refine zaE (b := B) (o := p) hF2 (by simp only [zac, zaf, zag, zaa, zab, zad, ne_eq, zae, hN, hnd, hfr, not_false_eq_true]) ?_
  refine zal ?_
  simp only [zac, zaf, zag, zaa, zab, zad, ne_eq, zae, hN, hnd, hfr, not_false_eq_true]
  rw [ho3]
  refine zaH (fun args w => Tryd.call23 args w) (R := App eB w2 base v1 (bs ++ zaZ (s.tags.length % 4294967296) ++ zaJ s.tags)) ?_ ?_
  · simp only [List.map_toArray, List.map_cons, List.map_nil]; simp only [zac, zaf, zag, zaa, zab, zad, ne_eq, zae, hN, hnd, hfr, not_false_eq_true]
    exact TagsEach_c hok (k1.chg hc (by omega)) k2 (k3.stay (Stay.of hc fun n hn _ => by omega)) hB happ.own (by rw [List.length_append]; omega) (Nat.le_trans hb hc.size)
  intro v2 w3 happ2
  refine zak ?_
  simp only [zac, zaf, zag, zaa, zab, zad, ne_eq, zae, hN, hnd, hfr, not_false_eq_true]
  refine zah ⟨?_, ?_⟩
  · ((repeat (with_reducible refine zam.put ?_ (by simp only [hfr, not_false_eq_true]) _)); with_reducible exact zam.refl _ _)
  · simp only [zac, zaf, zag, zaa, zab, zad, ne_eq, zae, hN, hnd, hfr, not_false_eq_true]
    rw [← List.append_assoc]
    exact happ.trans happ2
theorem wr_ifflex {t : Nat} {c : Code} {pre : Act → World → Nat → Prop} {enc : Bs} (hfl : E.fl = true) (h : E.flex = true → WrC E m k c pre enc) (hp : ∀ a w base v, pre a w base → pre (a.put (some t) v) w base)
    (hsl : E.safe m k ∧ Fre E m k t ∧ t ≠ 1) : WrC E m k (.seq (.region r0 #[⟨some t, .move (.tmp E.sF), y0, q0, e0, none⟩] false) (.cond (.tmp t) c .skip)) pre (if E.flex then enc else []) := by
  refine wv_flex hfl (fun hx => ?_) (fun hx => ?_) hp hsl
  · rw [hx, if_pos rfl]; exact h hx
  · rw [hx]; exact wr_skip
def PrL (x : Nat) (oa : Option Addr) (n cap : Nat) (M : World → Nat → Prop) (a : Act) (w : World) (base : Nat) : Prop := get a x = .slice oa n cap ∧ M w base
theorem wr_loop {x u0 u1 u2 u3 u4 m' k' b1 b2 ty ti esz n cap : Nat} {oa : Option Addr} {M : World → Nat → Prop} {body : Code} {encs : Nat → Bs}
    (hty : sliceB Tryd.prog ty esz = true) (hM : ∀ w w' base, M w base → Chg (fun g => base ≤ g) w w' → base ≤ w.heap.size → M w' base) (hn : n ≤ 1073741824)
    (hbody : ∀ i, i < n → WrC E m' k' body (fun a w base => get a u2 = .int .i64 i ∧ PrL x oa n cap M a w base) (encs i))
    (hE : E.safe m k ∧ WS m E.T k x ∧ m ≤ m' ∧ k ≤ k' ∧ WS m' E.T k' u1 ∧ WS m' E.T k' u2) (hfr : ∀ d ∈ [u0, u1, u2, u3, u4], Fre E m k d) (hnd : [1, x, u0, u1, u2, u3, u4].Nodup) :
    WrC E m k (.seq (.region r0 #[⟨some u0, .move (.tmp x), y0, q0, e0, none⟩, ⟨some u1, .call { callee := .builtin .len, args := #[.tmp u0], argTypes := #[ty] }, y1, q1, e1, none⟩, ⟨some u2, .move (.const (.int .i64 0)), y2, q2, e2, none⟩] false)
      (.block b1 (.loop (.seq (.region r1 #[⟨some u3, .binOp .lss ti (.tmp u2) (.tmp u1) ti, y3, q3, e3, none⟩] false) (.seq (.cond (.tmp u3) .skip (.exit b1)) (.seq (.block b2 body)
        (.region r2 #[⟨some u4, .binOp .add ti (.tmp u2) (.const (.int .i64 1)) ti, y4, q4, e4, none⟩, ⟨some u2, .move (.tmp u4), y5, q5, e5, none⟩] false)))))))
      (PrL x oa n cap M) ((List.range n).flatMap encs) := by
  obtain ⟨hE, hX, hm, hk, hU1, hU2⟩ := hE
  simp only [List.nodup_cons, List.mem_cons, List.not_mem_nil, or_false, not_or, List.nodup_nil, and_true, not_false_eq_true] at hnd; simp only [List.mem_cons, List.not_mem_nil, or_false, forall_eq_or_imp, forall_eq, Fre] at hfr
  intro a w base v bs hwk hv hown hb hpre hlim
  have hN := hwk.1
  obtain ⟨g1, hM0⟩ := hpre
  refine wp_seq_k fun K hK => ?_
  refine zai ?_
  refine zal ?_
  simp only [zac, zaf, zag, zaa, zab, zad, ne_eq, zae, hN, hnd, hfr, not_false_eq_true, g1]
  refine wl_len (sliceB.any hty) (by simp only [zac, zaf, zag, zaa, zab, zad, ne_eq, zae, hN, hnd, hfr, not_false_eq_true, isS]) ?_
  simp only [zac, zaf, zag, zaa, zab, zad, ne_eq, zae, hN, hnd, hfr, not_false_eq_true, lenV]
  refine zal ?_
  simp only [zac, zaf, zag, zaa, zab, zad, ne_eq, zae, hN, hnd, hfr, not_false_eq_true]
  refine zah (hK _ _ ?_)
  clear hK K
  refine wp_block ?_
  have pre_le : ∀ i, i ≤ n → ((List.range i).flatMap encs).length ≤ ((List.range n).flatMap encs).length := by
    intro i hi
    have e : List.range n = List.range i ++ (List.range (n - i)).map (i + ·) := by
      rw [← List.range_add]; congr 1; omega
    rw [e, List.flatMap_append, List.length_append]; omega
  refine wp_loop (fun a' w' => ∃ i, i ≤ n ∧ get a' u2 = .int .i64 i ∧ get a' u1 = .int .i64 n ∧ zam (WS m E.T k) a a' ∧ M w' base ∧ App eB w base v (bs ++ (List.range i).flatMap encs) (get a' 1) w')
    (fun a' _ => n - (intOf (get a' u2)).toNat) ?_ ?_
  · refine ⟨0, Nat.zero_le _, by simp only [zac, zaf, zag, zaa, zab, zad, ne_eq, zae, hN, hnd, hfr, not_false_eq_true]; rfl, by simp only [zac, zaf, zag, zaa, zab, zad, ne_eq, zae, hN, hnd, hfr, not_false_eq_true], by ((repeat (with_reducible refine zam.put ?_ (by simp only [hfr, not_false_eq_true]) _)); with_reducible exact zam.refl _ _), hM0, ?_⟩
    simp only [zac, zaf, zag, zaa, zab, zad, ne_eq, zae, hN, hnd, hfr, not_false_eq_true, hv]
    simp only [List.range_zero, List.flatMap_nil, List.append_nil]
    exact App.refl hown
  clear hN
  rintro a1 w1 ⟨i, hi, g2, g3, hkp, hM1, happ⟩
  have hN : a1.tmps.size = E.N := hkp.size.trans hwk.1
  have hc1 := happ.chgFrom hown
  refine wp_seq_k fun K hK => ?_
  refine zai ?_
  refine wl_lss (by simp only [zac, zaf, zag, zaa, zab, zad, ne_eq, zae, hN, hnd, hfr, not_false_eq_true, g2, g3, sameK, decide_true]) ?_
  simp only [zac, zaf, zag, zaa, zab, zad, ne_eq, zae, hN, hnd, hfr, not_false_eq_true, g2, g3, cmp2]
  refine zah (hK _ _ ?_)
  clear hK K
  refine wp_seq_k fun K hK => ?_
  by_cases hlt : i < n
  · have e1 : decide ((i : Int) < (n : Int)) = true := decide_eq_true (by omega)
    rw [e1]
    refine wp_cond_true (by simp only [zac, zaf, zag, zaa, zab, zad, ne_eq, zae, hN, hnd, hfr, not_false_eq_true]) ?_
    refine wp_skip (hK _ _ ?_)
    clear hK K
    refine wp_seq_k fun K hK => ?_
    refine wp_block ?_
    have hkp2 : zam (WS m E.T k) a (a1.put (some u3) (.bool true)) := hkp.put (by simp only [hfr, not_false_eq_true]) _
    have hl := pre_le (i + 1) hlt
    rw [List.range_succ, List.flatMap_append, List.length_append] at hl
    simp only [List.flatMap_cons, List.flatMap_nil, List.append_nil] at hl
    have hgo := hbody i hlt (a1.put (some u3) (.bool true)) w1 base (get a1 1) _ (hwk.keep hkp2 hE.1 hE.2) (by simp only [zac, zaf, zag, zaa, zab, zad, ne_eq, zae, hN, hnd, hfr, not_false_eq_true]) happ.own (Nat.le_trans hb hc1.size)
      ⟨by simp only [zac, zaf, zag, zaa, zab, zad, ne_eq, zae, hN, hnd, hfr, not_false_eq_true, g2], (hkp2.slot _ hX).trans g1, hM1⟩ (by rw [List.length_append]; omega)
    refine wp_mono hgo ?_
    intro e a2 w2 hq
    cases e <;> try exact hq.elim
    obtain ⟨hk2, happ2⟩ := hq
    refine hK _ _ ?_
    clear hK K
    have hN1 := hN
    clear hN
    have hN : a2.tmps.size = E.N := hk2.size.trans (by rw [zae]; exact hN1)
    have h2 : get a2 u2 = .int .i64 i := (hk2.slot _ hU2).trans (by rw [zad (by simp only [hnd, ne_eq, not_false_eq_true])]; exact g2)
    have h3 : get a2 u1 = .int .i64 n := (hk2.slot _ hU1).trans (by rw [zad (by simp only [hnd, ne_eq, not_false_eq_true])]; exact g3)
    refine zai ?_
    refine wl_add (by simp only [zac, zaf, zag, zaa, zab, zad, ne_eq, zae, hN, hnd, hfr, not_false_eq_true, h2, sameK, decide_true]) ?_
    simp only [zac, zaf, zag, zaa, zab, zad, ne_eq, zae, hN, hnd, hfr, not_false_eq_true, h2, add2]
    refine zal ?_
    simp only [zac, zaf, zag, zaa, zab, zad, ne_eq, zae, hN, hnd, hfr, not_false_eq_true]
    rw [i64_id ((i : Int) + 1) (by omega)]
    refine zah ?_
    have happ3 := happ.trans happ2
    have hkp3 : zam (WS m E.T k) a a2 := hkp2.trans (hk2.mono fun t ht => ht.mono hm hk)
    refine ⟨⟨i + 1, hlt, by simp only [zac, zaf, zag, zaa, zab, zad, ne_eq, zae, hN, hnd, hfr, not_false_eq_true]; rfl, by simp only [zac, zaf, zag, zaa, zab, zad, ne_eq, zae, hN, hnd, hfr, not_false_eq_true, h3], ?_, hM _ _ _ hM1 (happ2.chgFrom happ.own) (Nat.le_trans hb hc1.size), ?_⟩, ?_⟩
    · refine zam.put (zam.put hkp3 (by simp only [hfr, not_false_eq_true]) _) (by simp only [hfr, not_false_eq_true]) _
    · simp only [zac, zaf, zag, zaa, zab, zad, ne_eq, zae, hN, hnd, hfr, not_false_eq_true]
      rw [List.range_succ, List.flatMap_append, ← List.append_assoc]
      simp only [List.flatMap_cons, List.flatMap_nil, List.append_nil]
      exact happ3
    · simp only [zac, zaf, zag, zaa, zab, zad, ne_eq, zae, hN, hnd, hfr, not_false_eq_true, g2, intOf]
      omega
  · have e1 : decide ((i : Int) < (n : Int)) = false := decide_eq_false (by omega)
    rw [e1]
    have ei : i = n := by omega
    subst ei
    refine wp_cond_false (by simp only [zac, zaf, zag, zaa, zab, zad, ne_eq, zae, hN, hnd, hfr, not_false_eq_true]) ?_
    refine wp_exit ?_
    simp only [Exit.then, Exit.inBlock, if_pos]
    refine ⟨hkp.put (by simp only [hfr, not_false_eq_true]) _, ?_⟩
    simp only [zac, zaf, zag, zaa, zab, zad, ne_eq, zae, hN, hnd, hfr, not_false_eq_true]
    exact happ
end
end Go.Proofs.YtojpodeljpfgaabDoor
namespace Go.Proofs.YtojpodeljpfgaabDoor
set_option linter.all false
open Go.RowKit
set_option maxRecDepth 10000
section
variable {E : WEnv} {m k : Nat} {y0 y1 y2 y3 y4 y5 y6 y7 y8 y9 y10 y11 y12 y13 y14 y15 y16 y17 y18 y19 y20 y21 y22 y23 y24 y25 y26 y27 y28 y29 y30 y31 y32 y33 y34 y35 y36 y37 y38 y39 : TypeId} {q0 q1 q2 q3 q4 q5 q6 q7 q8 q9 q10 q11 q12 q13 q14 q15 q16 q17 q18 q19 q20 q21 q22 q23 q24 q25 q26 q27 q28 q29 q30 q31 q32 q33 q34 q35 q36 q37 q38 q39 : String} {e0 e1 e2 e3 e4 e5 e6 e7 e8 e9 e10 e11 e12 e13 e14 e15 e16 e17 e18 e19 e20 e21 e22 e23 e24 e25 e26 e27 e28 e29 e30 e31 e32 e33 e34 e35 e36 e37 e38 e39 : Array Edge} {r0 r1 r2 r3 r4 r5 : Nat}
def ML (E : WEnv) (of : K) (sub : List Fld) (l : List D) (oa : Option Addr) (w : World) (base : Nat) : Prop :=
  l = [] ∨ ∃ b cs T, oa = some ⟨b, 0, none⟩ ∧ b < base ∧ Blk w b cs T ∧
    match of with
    | .struct => l.length * ssz E.fl sub ≤ cs.length ∧ ∀ i x, l[i]? = some x → ∃ s : S, x = s.d ∧ ∃ v1 v2, ((cs.drop (i * ssz E.fl sub)).take (ssz E.fl sub)) = v1 ++ v2 ∧ RepL w (fun g => g < base) E.fl sub s.ds v1 ∧ RepT w (fun g => g < base) E.fl s.tags v2
    | k => l.length * ksz k ≤ cs.length ∧ ∀ i x, l[i]? = some x → RepK w (fun g => g < base) k x ((cs.drop (i * ksz k)).take (ksz k))
theorem ML.stable {of : K} {sub : List Fld} {l : List D} {oa : Option Addr} : ∀ w w' base, ML E of sub l oa w base → Chg (fun g => base ≤ g) w w' → base ≤ w.heap.size → ML E of sub l oa w' base := by
  intro w w' base h hc hb
  have st : Stay w w' (fun g => g < base) (fun g => g < base) := Stay.of hc fun n hn _ => by omega
  rcases h with h | ⟨b, cs, T, h1, h2, h3, h4⟩
  · exact .inl h
  · refine .inr ⟨b, cs, T, h1, h2, h3.chg hc (by omega), ?_⟩
    cases of <;> try (exact ⟨h4.1, fun i x hx => (h4.2 i x hx).stay st⟩)
    refine ⟨h4.1, fun i x hx => ?_⟩
    obtain ⟨s, k1, v1, v2, k2, k3, k4⟩ := h4.2 i x hx
    exact ⟨s, k1, v1, v2, k2, RepL.stay st k3, k4.stay st⟩
theorem PrL.stable {x : Nat} {oa : Option Addr} {n cap : Nat} {M : World → Nat → Prop} (hx : WS m E.T k x) (hM : ∀ w w' base, M w base → Chg (fun g => base ≤ g) w w' → base ≤ w.heap.size → M w' base) :
    Stable E m k (PrL x oa n cap M) (PrL x oa n cap M) :=
  fun _ _ _ _ _ h hk hc hb => ⟨(hk.slot _ hx).trans h.1, hM _ _ _ h.2 hc hb⟩
theorem wr_list {x : Nat} {a1 a2 a3 a4 a5 : Int} {of : K} {sub : List Fld} {nil : Bool} {l : List D} {c1 c2 : Code} {enc1 enc2 : Bs}
    (h1 : ∀ oa cap, oa.isNone = nil → WrC E m k c1 (PrL x oa l.length cap (ML E of sub l oa)) enc1)
    (h2 : ∀ oa cap, l.length ≤ 1073741824 → WrC E m k c2 (PrL x oa l.length cap (ML E of sub l oa)) enc2)
    (hE : E.safe m k ∧ WS m E.T k x) : WrC E m k (.seq c1 c2) (PrF E x (.mk .list a1 a2 a3 a4 a5 of sub) (.arr nil l)) (enc1 ++ enc2) := by
  intro a w base v bs hwk hv hown hb hpre hlim
  obtain ⟨val, g1, hr⟩ := hpre
  unfold RepF at hr
  dsimp only at hr
  obtain ⟨oa, cap, h3, h4, h5, h6⟩ := hr
  simp only [List.cons.injEq, and_true] at h3
  subst h3
  exact wr_seq hE.1 (h1 oa cap h4.1.symm) (h2 oa cap h5) (fun _ _ _ h => h) (PrL.stable hE.2 ML.stable) a w base v bs hwk hv hown hb ⟨g1, h6⟩ hlim
theorem wl_alen {x t1 t2 t3 t4 ty n cap : Nat} {oa : Option Addr} {M : World → Nat → Prop} {enc : Bs} {fn : FuncId} {us : Array TypeId} (hty : slB Tryd.prog ty = true) (hen : zaK Tryd.prog fn)
    (hc : AppC fn [.int .i64 n] enc (fun _ => True)) (hfr : ∀ d ∈ [1, t1, t2, t3, t4], Fre E m k d) (hnd : [1, x, t1, t2, t3, t4].Nodup) :
    WrC E m k (.region r0 #[⟨some t1, .move (.tmp 1), y0, q0, e0, none⟩, ⟨some t2, .move (.tmp x), y1, q1, e1, none⟩, ⟨some t3, .call { callee := .builtin .len, args := #[.tmp t2], argTypes := #[ty] }, y2, q2, e2, none⟩, ⟨some t4, .call { callee := .value (.func fn), args := #[.tmp t1, .tmp t3], argTypes := us }, y3, q3, e3, none⟩, ⟨some 1, .assign (.tmp t4), y4, q4, e4, none⟩] false)
      (PrL x oa n cap M) enc := by
  simp only [List.nodup_cons, List.mem_cons, List.not_mem_nil, or_false, not_or, List.nodup_nil, and_true, not_false_eq_true] at hnd; simp only [List.mem_cons, List.not_mem_nil, or_false, forall_eq_or_imp, forall_eq, Fre] at hfr
  intro a w base v bs hwk hv hown hb hpre hlim
  have hN := hwk.1
  obtain ⟨g1, hM⟩ := hpre
  refine zai ?_
  refine zal ?_
  refine zal ?_
  simp only [zac, zaf, zag, zaa, zab, zad, ne_eq, zae, hN, hnd, hfr, not_false_eq_true, hv, g1]
  refine wl_len hty (by simp only [zac, zaf, zag, zaa, zab, zad, ne_eq, zae, hN, hnd, hfr, not_false_eq_true, isS]) ?_
  simp only [zac, zaf, zag, zaa, zab, zad, ne_eq, zae, hN, hnd, hfr, not_false_eq_true, lenV]
  refine wl_callApp hen hc (by simp only [List.map_toArray, List.map_cons, List.map_nil]; simp only [zac, zaf, zag, zaa, zab, zad, ne_eq, zae, hN, hnd, hfr, not_false_eq_true]) hown hlim hb trivial ?_
  intro v1 w1 happ
  refine zak ?_
  simp only [zac, zaf, zag, zaa, zab, zad, ne_eq, zae, hN, hnd, hfr, not_false_eq_true]
  refine zah ⟨?_, ?_⟩
  · ((repeat (with_reducible refine zam.put ?_ (by simp only [hfr, not_false_eq_true]) _)); with_reducible exact zam.refl _ _)
  · simp only [zac, zaf, zag, zaa, zab, zad, ne_eq, zae, hN, hnd, hfr, not_false_eq_true]
    exact happ
theorem PrL.put {x : Nat} {oa : Option Addr} {n cap : Nat} {M : World → Nat → Prop} {t : Nat} (h : t ≠ x) : ∀ a w base v, PrL x oa n cap M a w base → PrL x oa n cap M (a.put (some t) v) w base :=
  fun _ _ _ _ ⟨h1, h2⟩ => ⟨(zab h).trans h1, h2⟩
theorem wv_ver {t1 t2 u : Nat} {ca cb : Code} {n : Int} {pre : Act → World → Nat → Prop} {enc : Bs}
    (ha : n ≤ E.ver → WrC E m k ca pre enc) (hb' : ¬ n ≤ E.ver → WrC E m k cb pre enc) (hp : ∀ a w base v, pre a w base → pre (a.put (some t1) v) w base) (hp2 : ∀ a w base v, pre a w base → pre (a.put (some t2) v) w base)
    (hsl : E.safe m k ∧ Fre E m k t1 ∧ Fre E m k t2 ∧ t1 ≠ 1 ∧ t2 ≠ 1) :
    WrC E m k (.seq (.region r0 #[⟨some t1, .move (.tmp E.sV), y0, q0, e0, none⟩, ⟨some t2, .binOp .geq u (.tmp t1) (.const (.int .i16 n)) u, y1, q1, e1, none⟩] false) (.cond (.tmp t2) ca cb)) pre enc := by
  obtain ⟨hE, f1, f2, n1, n2⟩ := hsl
  intro a w base v bs hok hv hown hb hpre hlim
  refine wp_seq_k fun K hK => ?_
  refine zai ?_
  refine zal ?_
  rw [zac, hok.2.2.1]
  have hx : (a.put (some t1) (.int .i16 E.ver)).eval (.tmp t1) = .int .i16 E.ver := by rw [zac, zaa (by rw [hok.1]; exact f1.2)]
  refine wl_geq (by rw [hx]; rfl) ?_
  rw [hx]
  simp only [zaf, cmp2]
  refine zah (hK _ _ ?_)
  have hkp : zam (WS m E.T k) a ((a.put (some t1) (.int .i16 E.ver)).put (some t2) (.bool (decide (n ≤ E.ver)))) := ((zam.refl _ _).put f1.1 _).put f2.1 _
  have hev : ((a.put (some t1) (.int .i16 E.ver)).put (some t2) (.bool (decide (n ≤ E.ver)))).eval (.tmp t2) = .bool (decide (n ≤ E.ver)) := by rw [zac, zaa (by rw [zae, hok.1]; exact f2.2)]
  by_cases hc : n ≤ E.ver
  · rw [decide_eq_true hc] at hev hkp ⊢
    exact wp_cond_true hev (wr_go (Nat.le_refl _) (Nat.le_refl _) hE (ha hc) hok hv hown hb hlim hkp ((zab n2).trans (zab n1)) (hp2 _ _ _ _ (hp _ _ _ _ hpre)))
  · rw [decide_eq_false hc] at hev hkp ⊢
    exact wp_cond_false hev (wr_go (Nat.le_refl _) (Nat.le_refl _) hE (hb' hc) hok hv hown hb hlim hkp ((zab n2).trans (zab n1)) (hp2 _ _ _ _ (hp _ _ _ _ hpre)))
def encAtS (enc : S → Bs) (l : List D) (i : Nat) : Bs := match l[i]? with | some (.struct ds tags) => enc ⟨ds, tags⟩ | _ => []
theorem flat_encAtS (enc : S → Bs) : ∀ (l : List D), (List.range l.length).flatMap (encAtS enc l) = l.flatMap fun x => match x with | .struct ds tags => enc ⟨ds, tags⟩ | _ => []
  | l => by
    have h : ∀ (r : List D) (p : List D), l = p ++ r → (List.range' p.length r.length).flatMap (encAtS enc l) = r.flatMap fun x => match x with | .struct ds tags => enc ⟨ds, tags⟩ | _ => [] := by
      intro r
      induction r with
      | nil => intro p _; simp
      | cons x r ih =>
        intro p hp
        have := ih (p ++ [x]) (by simp [hp])
        rw [List.length_append, List.length_singleton] at this
        rw [List.length_cons, List.range'_succ, List.flatMap_cons, this, List.flatMap_cons]
        congr 1
        simp only [encAtS, hp, List.getElem?_append_right (Nat.le_refl _), Nat.sub_self, List.getElem?_cons_zero]
        cases x <;> rfl
    have := h l [] rfl
    rw [List.range_eq_range']
    simpa using this
def encAtK (enc : D → Bs) (l : List D) (i : Nat) : Bs := match l[i]? with | some x => enc x | none => []
theorem flat_encAtK (enc : D → Bs) : ∀ (l : List D), (List.range l.length).flatMap (encAtK enc l) = l.flatMap enc
  | l => by
    have h : ∀ (r : List D) (p : List D), l = p ++ r → (List.range' p.length r.length).flatMap (encAtK enc l) = r.flatMap enc := by
      intro r
      induction r with
      | nil => intro p _; simp
      | cons x r ih =>
        intro p hp
        have := ih (p ++ [x]) (by simp [hp])
        rw [List.length_append, List.length_singleton] at this
        rw [List.length_cons, List.range'_succ, List.flatMap_cons, this, List.flatMap_cons]
        congr 1
        simp only [encAtK, hp, List.getElem?_append_right (Nat.le_refl _), Nat.sub_self, List.getElem?_cons_zero]
    have := h l [] rfl
    rw [List.range_eq_range']
    simpa using this
theorem wr_elemS {x u2 i y c1 c2 c3 c4 ty sz m' k' j n cap : Nat} {oa : Option Addr} {sub : List Fld} {l : List D} {c : Code} {enc : S → Bs}
    (hty : sliceB Tryd.prog ty sz = true) (hsz : sz = ssz E.fl sub) (hn : n = l.length) (hj : j < n) (h : ∀ s : S, s.d ∈ l → WrC E m' k' c (PrS E y 0 sub s) (enc s))
    (hE : E.safe m k ∧ m ≤ m' ∧ k ≤ k') (hfr : ∀ d ∈ [c1, i, c2, c3, c4, y], Fre E m k d) (hnd : [1, x, u2, c1, i, c2, c3, c4, y].Nodup) :
    WrC E m k (.seq (.region r0 #[⟨some c1, .move (.tmp u2), y0, q0, e0, none⟩, ⟨some i, .assign (.tmp c1), y1, q1, e1, none⟩] false) (.seq (.region r1 #[⟨some c2, .move (.tmp x), y2, q2, e2, none⟩, ⟨some c3, .move (.tmp i), y3, q3, e3, none⟩, ⟨some c4, .indexAddr ty (.tmp c2) (.tmp c3), y4, q4, e4, none⟩, ⟨some y, .assign (.tmp c4), y5, q5, e5, none⟩] false) c))
      (fun a w base => get a u2 = .int .i64 j ∧ PrL x oa n cap (ML E .struct sub l oa) a w base) (encAtS enc l j) := by
  obtain ⟨hE, hm, hk⟩ := hE
  simp only [List.nodup_cons, List.mem_cons, List.not_mem_nil, or_false, not_or, List.nodup_nil, and_true, not_false_eq_true] at hnd; simp only [List.mem_cons, List.not_mem_nil, or_false, forall_eq_or_imp, forall_eq, Fre] at hfr
  intro a w base v bs hwk hv hown hb hpre hlim
  have hN := hwk.1
  obtain ⟨g2, g1, hM⟩ := hpre
  subst hn
  have hx : l[j]? = some l[j] := by simp [hj]
  rcases hM with h0 | ⟨b, cs, T, rfl, hbb, hbk, hlen, hel⟩
  · rw [h0] at hj; cases hj
  obtain ⟨s, hs, v1, v2, e1, e2, e3⟩ := hel j _ hx
  have he : encAtS enc l j = enc s := by unfold encAtS; rw [hx, hs]; rfl
  rw [he] at hlim ⊢
  refine wp_seq_k fun K hK => ?_
  refine zai ?_
  refine zal ?_
  simp only [zac, zaf, zag, zaa, zab, zad, ne_eq, zae, hN, hnd, hfr, not_false_eq_true, g2]
  refine zak ?_
  simp only [zac, zaf, zag, zaa, zab, zad, ne_eq, zae, hN, hnd, hfr, not_false_eq_true]
  refine zah (hK _ _ ?_)
  clear hK K
  refine wp_seq_k fun K hK => ?_
  refine zai ?_
  refine zal ?_
  simp only [zac, zaf, zag, zaa, zab, zad, ne_eq, zae, hN, hnd, hfr, not_false_eq_true, g1]
  refine zal ?_
  simp only [zac, zaf, zag, zaa, zab, zad, ne_eq, zae, hN, hnd, hfr, not_false_eq_true]
  refine wl_indexAddr (b := b) (o := 0) (k := .i64) (i := j) (len := l.length) (cap := cap) hty (by simp only [zac, zaf, zag, zaa, zab, zad, ne_eq, zae, hN, hnd, hfr, not_false_eq_true]) (by simp only [zac, zaf, zag, zaa, zab, zad, ne_eq, zae, hN, hnd, hfr, not_false_eq_true]) hj ?_
  refine zak ?_
  simp only [zac, zaf, zag, zaa, zab, zad, ne_eq, zae, hN, hnd, hfr, not_false_eq_true]
  refine zah (hK _ _ ?_)
  have hmem : s.d ∈ l := by rw [← hs]; exact List.getElem_mem hj
  refine wr_go hm hk hE (h s hmem) hwk hv hown hb hlim (by ((repeat (with_reducible refine zam.put ?_ (by simp only [hfr, not_false_eq_true]) _)); with_reducible exact zam.refl _ _)) (by simp only [zac, zaf, zag, zaa, zab, zad, ne_eq, zae, hN, hnd, hfr, not_false_eq_true]) ⟨b, 0 + j * sz, by simp only [zac, zaf, zag, zaa, zab, zad, ne_eq, zae, hN, hnd, hfr, not_false_eq_true], ?_, hbb⟩
  refine ⟨cs, T, hbk, ?_, v1, v2, ?_, e2, e3⟩
  · have : (j + 1) * ssz E.fl sub ≤ l.length * ssz E.fl sub := Nat.mul_le_mul_right _ hj
    rw [Nat.add_mul] at this
    rw [hsz]; omega
  · rw [← e1, hsz]; simp
abbrev kf (of : K) : Fld := .mk of 0 (-1) (-1) (-1) 0 .bool []
theorem repF_kf {w : World} {G : Nat → Prop} {fl : Bool} {of : K} {d : D} {vs : List Value} (h1 : of ≠ .struct) (h2 : of ≠ .list) (h : RepK w G of d vs) : RepF w G fl (kf of) d vs := by
  unfold kf
  cases of <;> first | exact absurd rfl h1 | exact absurd rfl h2 | (unfold RepF; exact h) | (unfold RepF; dsimp only; rw [if_pos (by decide)]; exact h)
theorem wr_elemK {x u2 i y c1 c2 c3 c4 c5 ty ty2 m' k' j n cap : Nat} {oa : Option Addr} {of : K} {sub : List Fld} {l : List D} {c : Code} {enc : D → Bs}
    (hty : sliceB Tryd.prog ty 1 = true) (hty2 : scalB Tryd.prog ty2 = true) (hof : of ≠ .struct ∧ of ≠ .list ∧ ksz of = 1) (hn : n = l.length) (hj : j < n) (h : ∀ d, d ∈ l → WrC E m' k' c (PrF E y (kf of) d) (enc d))
    (hE : E.safe m k ∧ m ≤ m' ∧ k ≤ k') (hfr : ∀ d ∈ [c1, i, c2, c3, c4, c5, y], Fre E m k d) (hnd : [1, x, u2, c1, i, c2, c3, c4, c5, y].Nodup) :
    WrC E m k (.seq (.region r0 #[⟨some c1, .move (.tmp u2), y0, q0, e0, none⟩, ⟨some i, .assign (.tmp c1), y1, q1, e1, none⟩] false) (.seq (.region r1 #[⟨some c2, .move (.tmp x), y2, q2, e2, none⟩, ⟨some c3, .move (.tmp i), y3, q3, e3, none⟩, ⟨some c4, .indexAddr ty (.tmp c2) (.tmp c3), y4, q4, e4, none⟩, ⟨some c5, .load ty2 (.tmp c4), y5, q5, e5, none⟩, ⟨some y, .assign (.tmp c5), y6, q6, e6, none⟩] false) c))
      (fun a w base => get a u2 = .int .i64 j ∧ PrL x oa n cap (ML E of sub l oa) a w base) (encAtK enc l j) := by
  obtain ⟨hE, hm, hk⟩ := hE
  simp only [List.nodup_cons, List.mem_cons, List.not_mem_nil, or_false, not_or, List.nodup_nil, and_true, not_false_eq_true] at hnd; simp only [List.mem_cons, List.not_mem_nil, or_false, forall_eq_or_imp, forall_eq, Fre] at hfr
  intro a w base v bs hwk hv hown hb hpre hlim
  have hN := hwk.1
  obtain ⟨g2, g1, hM⟩ := hpre
  subst hn
  have hx : l[j]? = some l[j] := by simp [hj]
  have he : encAtK enc l j = enc l[j] := by unfold encAtK; rw [hx]
  rw [he] at hlim ⊢
  have hM' : ∃ b cs T, oa = some ⟨b, 0, none⟩ ∧ b < base ∧ Blk w b cs T ∧ l.length * ksz of ≤ cs.length ∧ ∀ i x, l[i]? = some x → RepK w (fun g => g < base) of x ((cs.drop (i * ksz of)).take (ksz of)) := by
    rcases hM with h0 | ⟨b, cs, T, h1, h2, h3, h4⟩
    · rw [h0] at hj; cases hj
    · refine ⟨b, cs, T, h1, h2, h3, ?_⟩
      cases of <;> first | exact absurd rfl hof.1 | exact absurd rfl hof.2.1 | exact h4
  obtain ⟨b, cs, T, rfl, hbb, hbk, hlen, hel⟩ := hM'
  have hr := hel j _ hx
  rw [hof.2.2] at hlen hr
  obtain ⟨val, hval, hseg⟩ := seg1 (l := cs) (o := j * 1) (by omega)
  rw [hseg] at hr
  refine wp_seq_k fun K hK => ?_
  refine zai ?_
  refine zal ?_
  simp only [zac, zaf, zag, zaa, zab, zad, ne_eq, zae, hN, hnd, hfr, not_false_eq_true, g2]
  refine zak ?_
  simp only [zac, zaf, zag, zaa, zab, zad, ne_eq, zae, hN, hnd, hfr, not_false_eq_true]
  refine zah (hK _ _ ?_)
  clear hK K
  refine wp_seq_k fun K hK => ?_
  refine zai ?_
  refine zal ?_
  simp only [zac, zaf, zag, zaa, zab, zad, ne_eq, zae, hN, hnd, hfr, not_false_eq_true, g1]
  refine zal ?_
  simp only [zac, zaf, zag, zaa, zab, zad, ne_eq, zae, hN, hnd, hfr, not_false_eq_true]
  refine wl_indexAddr (b := b) (o := 0) (k := .i64) (i := j) (len := l.length) (cap := cap) hty (by simp only [zac, zaf, zag, zaa, zab, zad, ne_eq, zae, hN, hnd, hfr, not_false_eq_true]) (by simp only [zac, zaf, zag, zaa, zab, zad, ne_eq, zae, hN, hnd, hfr, not_false_eq_true]) hj ?_
  refine wl_load (b := b) (o := 0 + j * 1) hty2 (by simp only [zac, zaf, zag, zaa, zab, zad, ne_eq, zae, hN, hnd, hfr, not_false_eq_true]) hbk (v := val) (by rw [Nat.zero_add]; exact hval) ?_
  refine zak ?_
  simp only [zac, zaf, zag, zaa, zab, zad, ne_eq, zae, hN, hnd, hfr, not_false_eq_true]
  refine zah (hK _ _ ?_)
  exact wr_go hm hk hE (h _ (List.getElem_mem hj)) hwk hv hown hb hlim (by ((repeat (with_reducible refine zam.put ?_ (by simp only [hfr, not_false_eq_true]) _)); with_reducible exact zam.refl _ _)) (by simp only [zac, zaf, zag, zaa, zab, zad, ne_eq, zae, hN, hnd, hfr, not_false_eq_true]) ⟨val, by simp only [zac, zaf, zag, zaa, zab, zad, ne_eq, zae, hN, hnd, hfr, not_false_eq_true], repF_kf hof.1 hof.2.1 hr⟩
theorem wv_conv {x y t m' k' : Nat} {f : Fld} {d : D} {c : Code} {enc : Bs} (h : WrC E m' k' c (PrF E y f d) enc) (hE : E.safe m k ∧ m ≤ m' ∧ k ≤ k') (hfr : ∀ d ∈ [t, y], Fre E m k d) (hnd : [1, x, t, y].Nodup) :
    WrC E m k (.seq (.region r0 #[⟨some t, .move (.tmp x), y0, q0, e0, none⟩, ⟨some y, .assign (.tmp t), y1, q1, e1, none⟩] false) c) (PrF E x f d) enc := by
  obtain ⟨hE, hm, hk⟩ := hE
  simp only [List.nodup_cons, List.mem_cons, List.not_mem_nil, or_false, not_or, List.nodup_nil, and_true, not_false_eq_true] at hnd; simp only [List.mem_cons, List.not_mem_nil, or_false, forall_eq_or_imp, forall_eq, Fre] at hfr
  intro a w base v bs hwk hv hown hb hpre hlim
  have hN := hwk.1
  obtain ⟨val, g1, hr⟩ := hpre
  refine wp_seq_k fun K hK => ?_
  refine zai ?_
  refine zal ?_
  simp only [zac, zaf, zag, zaa, zab, zad, ne_eq, zae, hN, hnd, hfr, not_false_eq_true, g1]
  refine zak ?_
  simp only [zac, zaf, zag, zaa, zab, zad, ne_eq, zae, hN, hnd, hfr, not_false_eq_true]
  refine zah (hK _ _ ?_)
  exact wr_go hm hk hE h hwk hv hown hb hlim (by ((repeat (with_reducible refine zam.put ?_ (by simp only [hfr, not_false_eq_true]) _)); with_reducible exact zam.refl _ _)) (by simp only [zac, zaf, zag, zaa, zab, zad, ne_eq, zae, hN, hnd, hfr, not_false_eq_true]) ⟨val, by simp only [zac, zaf, zag, zaa, zab, zad, ne_eq, zae, hN, hnd, hfr, not_false_eq_true], hr⟩
theorem wr_inner {sS k0 i T idx y t1 t2 t3 m' k' off n : Nat} {fs sub : List Fld} {s s' : S} {a1 a2 a3 a4 a5 : Int} {of : K} {c : Code} {enc : Bs}
    (hf : fs[i]? = some (.mk .struct a1 a2 a3 a4 a5 of sub)) (hnull : a3 < 0) (hd : s.ds[i]? = some s'.d) (hF : zaR Tryd.prog T idx off n = true) (ho : off = k0 + foff E.fl fs i)
    (h : WrC E m' k' c (PrS E y 0 sub s') enc) (hE : E.safe m k ∧ m ≤ m' ∧ k ≤ k') (hfr : ∀ d ∈ [t1, t2, t3, y], Fre E m k d) (hnd : [1, sS, t1, t2, t3, y].Nodup) :
    WrC E m k (.seq (.region r0 #[⟨some t1, .move (.tmp sS), y0, q0, e0, none⟩, ⟨some t2, .nilCheck (.tmp t1), y1, q1, e1, none⟩, ⟨some t3, .fieldAddr T (.tmp t2) idx, y2, q2, e2, none⟩, ⟨some y, .assign (.tmp t3), y3, q3, e3, none⟩] false) c) (PrS E sS k0 fs s) enc := by
  obtain ⟨hE, hm, hk⟩ := hE
  simp only [List.nodup_cons, List.mem_cons, List.not_mem_nil, or_false, not_or, List.nodup_nil, and_true, not_false_eq_true] at hnd; simp only [List.mem_cons, List.not_mem_nil, or_false, forall_eq_or_imp, forall_eq, Fre] at hfr
  intro a w base v bs hwk hv hown hb hpre hlim
  have hN := hwk.1
  obtain ⟨B, p, g1, hat, hB⟩ := hpre
  obtain ⟨d', cs, Tb, k1, k2, k3, k4⟩ := hat.field hf
  rw [hd] at k1
  have hfz : fsz E.fl (.mk .struct a1 a2 a3 a4 a5 of sub) = ssz E.fl sub := by simp [fsz, hnull, ssz]
  rw [hfz] at k3 k4
  unfold RepF at k4
  dsimp only at k4
  rw [if_pos hnull] at k4
  obtain ⟨s2, e1, v1, v2, e2, e3, e4⟩ := k4
  have es : s2 = s' := by
    cases s2; cases s'
    rw [e1] at k1
    simp [S.d] at k1
    simp [k1]
  subst es
  refine wp_seq_k fun K hK => ?_
  refine zai ?_
  refine zal ?_
  simp only [zac, zaf, zag, zaa, zab, zad, ne_eq, zae, hN, hnd, hfr, not_false_eq_true, g1]
  refine zaI (p := ⟨B, p, none⟩) (by simp only [zac, zaf, zag, zaa, zab, zad, ne_eq, zae, hN, hnd, hfr, not_false_eq_true]) ?_
  refine zaE (b := B) (o := p) hF (by simp only [zac, zaf, zag, zaa, zab, zad, ne_eq, zae, hN, hnd, hfr, not_false_eq_true]) ?_
  refine zak ?_
  simp only [zac, zaf, zag, zaa, zab, zad, ne_eq, zae, hN, hnd, hfr, not_false_eq_true]
  refine zah (hK _ _ ?_)
  refine wr_go hm hk hE h hwk hv hown hb hlim (by ((repeat (with_reducible refine zam.put ?_ (by simp only [hfr, not_false_eq_true]) _)); with_reducible exact zam.refl _ _)) (by simp only [zac, zaf, zag, zaa, zab, zad, ne_eq, zae, hN, hnd, hfr, not_false_eq_true]) ⟨B, p + off, by simp only [zac, zaf, zag, zaa, zab, zad, ne_eq, zae, hN, hnd, hfr, not_false_eq_true], ⟨cs, Tb, k2, by omega, v1, v2, ?_, e3, e4⟩, hB⟩
  rw [← e2]; congr 2; omega
end
end Go.Proofs.YtojpodeljpfgaabDoor
namespace Go.Proofs.YtojpodeljpfgaabDoor
set_option linter.all false
open Go.RowKit
set_option maxRecDepth 10000
def fEnc (E : WEnv) (f : Fld) (d : D) : Bs := if decide (f.tag < 0) && f.has E.ver then encF E.flex E.ver f d else []
def slotB (N T m k sV sF : Nat) (fl : Bool) (wr rd : List Nat) : Bool :=
  decide (((sV < m ∧ sV ≠ 1) ∨ (T ≤ sV ∧ sV < k)) ∧ (fl = true → ((sF < m ∧ sF ≠ 1) ∨ (T ≤ sF ∧ sF < k)))) &&
  wr.all (fun d => decide (¬ ((d < m ∧ d ≠ 1) ∨ (T ≤ d ∧ d < k)) ∧ d < N)) && rd.all (fun d => decide ((d < m ∧ d ≠ 1) ∨ (T ≤ d ∧ d < k))) && decide ((1 :: (rd ++ wr)).Nodup) && decide (1 < T) && decide (1 < N)
abbrev WEnv.sl (E : WEnv) (m k : Nat) (wr rd : List Nat) : Bool := slotB E.N E.T m k E.sV E.sF E.fl wr rd
section
variable {E : WEnv} {m k : Nat} {y0 y1 y2 y3 y4 y5 y6 y7 y8 y9 y10 y11 y12 y13 y14 y15 y16 y17 y18 y19 y20 y21 y22 y23 y24 y25 y26 y27 y28 y29 y30 y31 y32 y33 y34 y35 y36 y37 y38 y39 : TypeId} {q0 q1 q2 q3 q4 q5 q6 q7 q8 q9 q10 q11 q12 q13 q14 q15 q16 q17 q18 q19 q20 q21 q22 q23 q24 q25 q26 q27 q28 q29 q30 q31 q32 q33 q34 q35 q36 q37 q38 q39 : String} {e0 e1 e2 e3 e4 e5 e6 e7 e8 e9 e10 e11 e12 e13 e14 e15 e16 e17 e18 e19 e20 e21 e22 e23 e24 e25 e26 e27 e28 e29 e30 e31 e32 e33 e34 e35 e36 e37 e38 e39 : Array Edge} {r0 r1 r2 r3 r4 r5 : Nat}
theorem sl_out {wr rd : List Nat} (h : E.sl m k wr rd = true) : E.safe m k ∧ (∀ d ∈ 1 :: wr, Fre E m k d) ∧ (∀ d ∈ rd, WS m E.T k d) ∧ (1 :: (rd ++ wr)).Nodup := by
  unfold WEnv.sl slotB at h
  simp only [Bool.and_eq_true, decide_eq_true_eq, List.all_eq_true] at h
  obtain ⟨⟨⟨⟨⟨⟨h1, h2⟩, h3⟩, h4⟩, h5⟩, h6⟩, h7⟩ := h
  refine ⟨⟨h1, h2⟩, fun d hd => ?_, fun d hd => h4 d hd, h5⟩
  rcases List.mem_cons.1 hd with rfl | hd
  · exact ⟨by unfold WS; omega, h7⟩
  · exact h3 d hd
def fTail (E : WEnv) (fs : List Fld) (s : S) (i : Nat) (tl : Bs) : Bs := encL E.flex E.ver (fs.drop i) (s.ds.drop i) ++ tl
theorem fTail_step {fs : List Fld} {s : S} {i : Nat} {tl : Bs} {f : Fld} {d : D} (hf : fs[i]? = some f) (hd : s.ds[i]? = some d) : fTail E fs s i tl = fEnc E f d ++ fTail E fs s (i + 1) tl := by
  unfold fTail fEnc
  have h1 := (List.getElem?_eq_some_iff.1 hf)
  have h2 := (List.getElem?_eq_some_iff.1 hd)
  obtain ⟨h1, e1⟩ := h1
  obtain ⟨h2, e2⟩ := h2
  rw [List.drop_eq_getElem_cons h1, List.drop_eq_getElem_cons h2, e1, e2]
  rw [encL, List.append_assoc]
theorem fTail_end {fs : List Fld} {s : S} {i : Nat} {tl : Bs} (h : fs.length ≤ i) : fTail E fs s i tl = tl := by
  unfold fTail
  rw [List.drop_of_length_le h]
  rfl
theorem PrS.at_d {sS k0 i : Nat} {fs : List Fld} {s : S} {f : Fld} {a : Act} {w : World} {base : Nat} (h : PrS E sS k0 fs s a w base) (hf : fs[i]? = some f) : ∃ d, s.ds[i]? = some d := by
  obtain ⟨B, p, _, h2, _⟩ := h
  obtain ⟨d, _, _, h3, _⟩ := h2.field hf
  exact ⟨d, h3⟩
theorem wr_next {sS k0 i : Nat} {fs : List Fld} {s : S} {f : Fld} {tl : Bs} {c1 c2 : Code} (hf : fs[i]? = some f) (hsl : E.sl m k [] [sS] = true)
    (h1 : ∀ d, s.ds[i]? = some d → WrC E m k c1 (PrS E sS k0 fs s) (fEnc E f d)) (h2 : WrC E m k c2 (PrS E sS k0 fs s) (fTail E fs s (i + 1) tl)) :
    WrC E m k (.seq c1 c2) (PrS E sS k0 fs s) (fTail E fs s i tl) := by
  intro a w base v bs hwk hv hown hb hpre hlim
  obtain ⟨d, hd⟩ := hpre.at_d hf
  rw [fTail_step hf hd] at hlim ⊢
  obtain ⟨hE, _, hr, _⟩ := sl_out hsl
  exact wr_seq hE (h1 d hd) h2 (fun _ _ _ h => h) (PrS.stable (hr sS (by simp))) a w base v bs hwk hv hown hb hpre hlim
theorem wr_tagged {sS k0 i : Nat} {fs : List Fld} {s : S} {f : Fld} {tl : Bs} {c : Code} (hf : fs[i]? = some f) (ht : decide (0 ≤ f.tag) = true)
    (h : WrC E m k c (PrS E sS k0 fs s) (fTail E fs s (i + 1) tl)) : WrC E m k c (PrS E sS k0 fs s) (fTail E fs s i tl) := by
  intro a w base v bs hwk hv hown hb hpre hlim
  obtain ⟨d, hd⟩ := hpre.at_d hf
  have e : fEnc E f d = [] := by
    have := of_decide_eq_true ht
    unfold fEnc; rw [if_neg]; simp; omega
  rw [fTail_step hf hd, e, List.nil_append] at hlim ⊢
  exact h a w base v bs hwk hv hown hb hpre hlim
theorem wr_last {sS k0 i : Nat} {fs : List Fld} {s : S} {f : Fld} {c1 : Code} (hf : fs[i]? = some f) (hl : decide (fs.length = i + 1) = true)
    (h1 : ∀ d, s.ds[i]? = some d → WrC E m k c1 (PrS E sS k0 fs s) (fEnc E f d)) : WrC E m k c1 (PrS E sS k0 fs s) (fTail E fs s i []) := by
  intro a w base v bs hwk hv hown hb hpre hlim
  obtain ⟨d, hd⟩ := hpre.at_d hf
  have := of_decide_eq_true hl
  rw [fTail_step hf hd, fTail_end (by omega), List.append_nil] at hlim ⊢
  exact h1 d hd a w base v bs hwk hv hown hb hpre hlim
theorem wr_end {sS k0 i : Nat} {fs : List Fld} {s : S} {tl : Bs} {c : Code} (hl : decide (fs.length ≤ i) = true) (h : WrC E m k c (PrS E sS k0 fs s) tl) : WrC E m k c (PrS E sS k0 fs s) (fTail E fs s i tl) := by
  rw [fTail_end (of_decide_eq_true hl)]; exact h
theorem wf_all {f : Fld} {d : D} {c : Code} {pre : Act → World → Nat → Prop} (hf : (decide (f.tag < 0) && decide (f.from_ ≤ 0) && decide (f.to < 0)) = true) (hv : 0 ≤ E.ver)
    (h : WrC E m k c pre (encF E.flex E.ver f d)) : WrC E m k c pre (fEnc E f d) := by
  simp only [Bool.and_eq_true, decide_eq_true_eq] at hf
  have e : (decide (f.tag < 0) && f.has E.ver) = true := by
    unfold Fld.has
    simp only [Bool.and_eq_true, Bool.or_eq_true, decide_eq_true_eq]
    omega
  unfold fEnc
  rw [if_pos e]; exact h
theorem wf_from {sS k0 t1 t2 u : Nat} {fs : List Fld} {s : S} {f : Fld} {d : D} {n : Int} {c : Code} (hf : (decide (f.tag < 0) && decide (f.from_ = n) && decide (f.to < 0)) = true)
    (hsl : E.sl m k [t1, t2] [sS] = true) (h : n ≤ E.ver → WrC E m k c (PrS E sS k0 fs s) (encF E.flex E.ver f d)) :
    WrC E m k (.seq (.region r0 #[⟨some t1, .move (.tmp E.sV), y0, q0, e0, none⟩, ⟨some t2, .binOp .geq u (.tmp t1) (.const (.int .i16 n)) u, y1, q1, e1, none⟩] false) (.cond (.tmp t2) c .skip)) (PrS E sS k0 fs s) (fEnc E f d) := by
  simp only [Bool.and_eq_true, decide_eq_true_eq] at hf
  have e : fEnc E f d = if n ≤ E.ver then encF E.flex E.ver f d else [] := by
    unfold fEnc Fld.has
    congr 1
    simp only [Bool.and_eq_true, Bool.or_eq_true, decide_eq_true_eq, eq_iff_iff]
    omega
  rw [e]
  obtain ⟨hE, hw, _, hnd⟩ := sl_out hsl
  simp only [List.nodup_cons, List.mem_cons, List.mem_append, List.cons_append, List.nil_append, List.not_mem_nil, or_false, not_or, List.nodup_nil, and_true, not_false_eq_true] at hnd
  exact wr_ifver h (PrS.put (by first | (simp only [hnd, not_false_eq_true, ne_eq]; done) | (intro e; simp [e] at hnd))) (PrS.put (by first | (simp only [hnd, not_false_eq_true, ne_eq]; done) | (intro e; simp [e] at hnd))) ⟨hE, hw t1 (by simp), hw t2 (by simp), (by first | (simp only [hnd, not_false_eq_true, ne_eq]; done) | (intro e; simp [e] at hnd)), (by first | (simp only [hnd, not_false_eq_true, ne_eq]; done) | (intro e; simp [e] at hnd))⟩
theorem wf_range {sS k0 t1 t2 t3 t4 t5 t6 u : Nat} {fs : List Fld} {s : S} {f : Fld} {d : D} {n n2 : Int} {c : Code} (hf : (decide (f.tag < 0) && decide (f.from_ = n) && decide (f.to = n2) && decide (0 ≤ n2)) = true)
    (hsl : E.sl m k [t1, t2, t3, t4, t5, t6] [sS] = true) (h : n ≤ E.ver → E.ver ≤ n2 → WrC E m k c (PrS E sS k0 fs s) (encF E.flex E.ver f d)) :
    WrC E m k (.seq (.region r0 #[⟨some t1, .move (.tmp E.sV), y0, q0, e0, none⟩, ⟨some t2, .binOp .geq u (.tmp t1) (.const (.int .i16 n)) u, y1, q1, e1, none⟩, ⟨some t3, .move (.tmp t2), y2, q2, e2, none⟩, ⟨some t4, .move (.tmp E.sV), y10, q10, e10, some (2, true)⟩, ⟨some t5, .binOp .leq u (.tmp t4) (.const (.int .i16 n2)) u, y11, q11, e11, some (2, true)⟩, ⟨some t6, .pick (.tmp t3) (.tmp t5) (.const (.bool false)), y3, q3, e3, none⟩] false) (.cond (.tmp t6) c .skip)) (PrS E sS k0 fs s) (fEnc E f d) := by
  simp only [Bool.and_eq_true, decide_eq_true_eq] at hf
  have e : fEnc E f d = if n ≤ E.ver ∧ E.ver ≤ n2 then encF E.flex E.ver f d else [] := by
    unfold fEnc Fld.has
    congr 1
    simp only [Bool.and_eq_true, Bool.or_eq_true, decide_eq_true_eq, eq_iff_iff]
    omega
  rw [e]
  obtain ⟨hE, hfr, hrd, hnd⟩ := sl_out hsl
  simp only [List.mem_cons, List.not_mem_nil, or_false, forall_eq_or_imp, forall_eq, Fre] at hrd
  simp only [List.nodup_cons, List.mem_cons, List.mem_append, List.cons_append, List.nil_append, List.not_mem_nil, or_false, not_or, List.nodup_nil, and_true, not_false_eq_true] at hnd
  simp only [List.mem_cons, List.not_mem_nil, or_false, forall_eq_or_imp, forall_eq, Fre] at hfr
  intro a w base v bs hwk hv hown hb hpre hlim
  have hN := hwk.1
  have hsV : ∀ t ∈ [t1, t2, t3, t4, t5, t6], t ≠ E.sV := by
    intro t ht e
    have h1 := hE.1
    simp only [List.mem_cons, List.not_mem_nil, or_false] at ht
    rcases ht with rfl | rfl | rfl | rfl | rfl | rfl <;> simp only [e, h1, not_true_eq_false, false_and, and_false] at hfr
  simp only [List.mem_cons, List.not_mem_nil, or_false, forall_eq_or_imp, forall_eq] at hsV
  refine wp_seq_k fun K hK => ?_
  refine zai ?_
  refine zal ?_
  rw [zac, hwk.2.2.1]
  refine wl_geq (by simp only [zac, zaf, zag, zaa, zab, zad, ne_eq, zae, hN, hnd, hfr, not_false_eq_true, sameK, decide_true]) ?_
  simp only [zac, zaf, zag, zaa, zab, zad, ne_eq, zae, hN, hnd, hfr, not_false_eq_true, cmp2]
  refine zal ?_
  simp only [zac, zaf, zag, zaa, zab, zad, ne_eq, zae, hN, hnd, hfr, not_false_eq_true]
  by_cases hc : n ≤ E.ver
  · rw [decide_eq_true hc]
    refine wl_gyesB rfl rfl (by simp only [zac, zaf, zag, zaa, zab, zad, ne_eq, zae, hN, hnd, hfr, not_false_eq_true]) ?_
    refine zal ?_
    simp only [zac, zaf, zag, zaa, zab, zad, ne_eq, zae, hN, hnd, hfr, not_false_eq_true, hsV, hwk.2.2.1]
    refine wl_gyesB rfl rfl (by simp only [zac, zaf, zag, zaa, zab, zad, ne_eq, zae, hN, hnd, hfr, not_false_eq_true]) ?_
    refine wl_leq (by simp only [zac, zaf, zag, zaa, zab, zad, ne_eq, zae, hN, hnd, hfr, not_false_eq_true, sameK, decide_true]) ?_
    simp only [zac, zaf, zag, zaa, zab, zad, ne_eq, zae, hN, hnd, hfr, not_false_eq_true, cmp2]
    refine wl_pickT (by simp only [zac, zaf, zag, zaa, zab, zad, ne_eq, zae, hN, hnd, hfr, not_false_eq_true]) ?_
    simp only [zac, zaf, zag, zaa, zab, zad, ne_eq, zae, hN, hnd, hfr, not_false_eq_true]
    refine zah (hK _ _ ?_)
    by_cases hc2 : E.ver ≤ n2
    · rw [if_pos ⟨hc, hc2⟩] at hlim ⊢
      rw [decide_eq_true hc2]
      exact wp_cond_true (by simp only [zac, zaf, zag, zaa, zab, zad, ne_eq, zae, hN, hnd, hfr, not_false_eq_true]) (wr_go (Nat.le_refl _) (Nat.le_refl _) hE (h hc hc2) hwk hv hown hb hlim (by ((repeat (with_reducible refine zam.put ?_ (by simp only [hfr, not_false_eq_true]) _)); with_reducible exact zam.refl _ _)) (by simp only [zac, zaf, zag, zaa, zab, zad, ne_eq, zae, hN, hnd, hfr, not_false_eq_true]) (PrS.put (by first | (simp only [hnd, not_false_eq_true, ne_eq]; done) | (intro e; simp [e] at hnd)) _ _ _ _ (PrS.put (by first | (simp only [hnd, not_false_eq_true, ne_eq]; done) | (intro e; simp [e] at hnd)) _ _ _ _ (PrS.put (by first | (simp only [hnd, not_false_eq_true, ne_eq]; done) | (intro e; simp [e] at hnd)) _ _ _ _ (PrS.put (by first | (simp only [hnd, not_false_eq_true, ne_eq]; done) | (intro e; simp [e] at hnd)) _ _ _ _ (PrS.put (by first | (simp only [hnd, not_false_eq_true, ne_eq]; done) | (intro e; simp [e] at hnd)) _ _ _ _ (PrS.put (by first | (simp only [hnd, not_false_eq_true, ne_eq]; done) | (intro e; simp [e] at hnd)) _ _ _ _ hpre)))))))
    · rw [if_neg (fun h => hc2 h.2)] at hlim ⊢
      rw [decide_eq_false hc2]
      exact wp_cond_false (by simp only [zac, zaf, zag, zaa, zab, zad, ne_eq, zae, hN, hnd, hfr, not_false_eq_true]) (wr_go (Nat.le_refl _) (Nat.le_refl _) hE (wr_skip (pre := fun _ _ _ => True)) hwk hv hown hb hlim (by ((repeat (with_reducible refine zam.put ?_ (by simp only [hfr, not_false_eq_true]) _)); with_reducible exact zam.refl _ _)) (by simp only [zac, zaf, zag, zaa, zab, zad, ne_eq, zae, hN, hnd, hfr, not_false_eq_true]) trivial)
  · rw [decide_eq_false hc]
    refine wl_gnoB rfl rfl (by simp only [zac, zaf, zag, zaa, zab, zad, ne_eq, zae, hN, hnd, hfr, not_false_eq_true]; rfl) ?_
    refine wl_gnoB rfl rfl (by simp only [zac, zaf, zag, zaa, zab, zad, ne_eq, zae, hN, hnd, hfr, not_false_eq_true]; rfl) ?_
    refine wl_pickF (by simp only [zac, zaf, zag, zaa, zab, zad, ne_eq, zae, hN, hnd, hfr, not_false_eq_true]) ?_
    simp only [zac, zaf, zag, zaa, zab, zad, ne_eq, zae, hN, hnd, hfr, not_false_eq_true]
    refine zah (hK _ _ ?_)
    rw [if_neg (fun h => hc h.1)] at hlim ⊢
    exact wp_cond_false (by simp only [zac, zaf, zag, zaa, zab, zad, ne_eq, zae, hN, hnd, hfr, not_false_eq_true]) (wr_go (Nat.le_refl _) (Nat.le_refl _) hE (wr_skip (pre := fun _ _ _ => True)) hwk hv hown hb hlim (by ((repeat (with_reducible refine zam.put ?_ (by simp only [hfr, not_false_eq_true]) _)); with_reducible exact zam.refl _ _)) (by simp only [zac, zaf, zag, zaa, zab, zad, ne_eq, zae, hN, hnd, hfr, not_false_eq_true]) trivial)
end
end Go.Proofs.YtojpodeljpfgaabDoor
namespace Go.Proofs.YtojpodeljpfgaabDoor
set_option linter.all false
open Go.RowKit
set_option maxRecDepth 10000
section
variable {E : WEnv} {m k : Nat} {y0 y1 y2 y3 y4 y5 y6 y7 y8 y9 y10 y11 y12 y13 y14 y15 y16 y17 y18 y19 y20 y21 y22 y23 y24 y25 y26 y27 y28 y29 y30 y31 y32 y33 y34 y35 y36 y37 y38 y39 : TypeId} {q0 q1 q2 q3 q4 q5 q6 q7 q8 q9 q10 q11 q12 q13 q14 q15 q16 q17 q18 q19 q20 q21 q22 q23 q24 q25 q26 q27 q28 q29 q30 q31 q32 q33 q34 q35 q36 q37 q38 q39 : String} {e0 e1 e2 e3 e4 e5 e6 e7 e8 e9 e10 e11 e12 e13 e14 e15 e16 e17 e18 e19 e20 e21 e22 e23 e24 e25 e26 e27 e28 e29 e30 e31 e32 e33 e34 e35 e36 e37 e38 e39 : Array Edge} {r0 r1 r2 r3 r4 r5 : Nat}
variable {a1 a2 a3 a4 a5 : Int} {of : K} {sub : List Fld} {d : D} {x t1 t2 t3 t4 t5 : Nat} {us : Array TypeId}
theorem wv_callS {f : Fld} {enc : Bs} {fn : FuncId} (hen : zaK Tryd.prog fn)
    (hc : ∀ w base val, RepF w (fun g => g < base) E.fl f d [val] → ∃ pr, AppC fn [val] enc pr ∧ pr w) (hsl : E.sl m k [t1, t2, t3] [x] = true) :
    WrC E m k (.region r0 #[⟨some t1, .move (.tmp 1), y0, q0, e0, none⟩, ⟨some t2, .move (.tmp x), y1, q1, e1, none⟩, ⟨some t3, .call { callee := .value (.func fn), args := #[.tmp t1, .tmp t2], argTypes := us }, y2, q2, e2, none⟩, ⟨some 1, .assign (.tmp t3), y3, q3, e3, none⟩] false) (PrF E x f d) enc := by
  obtain ⟨hE, hfr, hrd, hnd⟩ := sl_out hsl
  have h1 := hfr 1 (by simp)
  simp only [List.nodup_cons, List.mem_cons, List.mem_append, List.cons_append, List.nil_append, List.not_mem_nil, or_false, not_or, List.nodup_nil, and_true, not_false_eq_true] at hnd
  simp only [List.mem_cons, List.not_mem_nil, or_false, forall_eq_or_imp, forall_eq] at hfr
  exact wv_call (x := x) hen hc ⟨hfr.2.1, hfr.2.2.1, hfr.2.2.2, (by first | (simp only [hnd, not_false_eq_true, ne_eq]; done) | (intro e; simp [e] at hnd)), (by first | (simp only [hnd, not_false_eq_true, ne_eq]; done) | (intro e; simp [e] at hnd)), (by first | (simp only [hnd, not_false_eq_true, ne_eq]; done) | (intro e; simp [e] at hnd)), h1.1, h1.2⟩
theorem wv_i16 (hsl : E.sl m k [t1, t2, t3] [x] = true) :
    WrC E m k (.region r0 #[⟨some t1, .move (.tmp 1), y0, q0, e0, none⟩, ⟨some t2, .move (.tmp x), y1, q1, e1, none⟩, ⟨some t3, .call { callee := .value (.func 15), args := #[.tmp t1, .tmp t2], argTypes := us }, y2, q2, e2, none⟩, ⟨some 1, .assign (.tmp t3), y3, q3, e3, none⟩] false)
      (PrF E x (.mk .i16 a1 a2 a3 a4 a5 of sub) d) (encF E.flex E.ver (.mk .i16 a1 a2 a3 a4 a5 of sub) d) := by
  refine wv_callS (fun args w => Tryd.call15 args w) (fun w base val hr => ?_) hsl
  unfold RepF at hr
  dsimp only at hr
  cases d <;> first | exact hr.elim | skip
  simp only [RepK, List.cons.injEq, and_true] at hr
  subst hr
  exact ⟨_, AppendInt16_c _, trivial⟩
theorem wv_i32 (hsl : E.sl m k [t1, t2, t3] [x] = true) :
    WrC E m k (.region r0 #[⟨some t1, .move (.tmp 1), y0, q0, e0, none⟩, ⟨some t2, .move (.tmp x), y1, q1, e1, none⟩, ⟨some t3, .call { callee := .value (.func 20), args := #[.tmp t1, .tmp t2], argTypes := us }, y2, q2, e2, none⟩, ⟨some 1, .assign (.tmp t3), y3, q3, e3, none⟩] false)
      (PrF E x (.mk .i32 a1 a2 a3 a4 a5 of sub) d) (encF E.flex E.ver (.mk .i32 a1 a2 a3 a4 a5 of sub) d) := by
  refine wv_callS (fun args w => Tryd.call20 args w) (fun w base val hr => ?_) hsl
  unfold RepF at hr
  dsimp only at hr
  cases d <;> first | exact hr.elim | skip
  simp only [RepK, List.cons.injEq, and_true] at hr
  subst hr
  exact ⟨_, AppendInt32_c _, trivial⟩
theorem wv_u16 (hsl : E.sl m k [t1, t2, t3] [x] = true) :
    WrC E m k (.region r0 #[⟨some t1, .move (.tmp 1), y0, q0, e0, none⟩, ⟨some t2, .move (.tmp x), y1, q1, e1, none⟩, ⟨some t3, .call { callee := .value (.func 24), args := #[.tmp t1, .tmp t2], argTypes := us }, y2, q2, e2, none⟩, ⟨some 1, .assign (.tmp t3), y3, q3, e3, none⟩] false)
      (PrF E x (.mk .u16 a1 a2 a3 a4 a5 of sub) d) (encF E.flex E.ver (.mk .u16 a1 a2 a3 a4 a5 of sub) d) := by
  refine wv_callS (fun args w => Tryd.call24 args w) (fun w base val hr => ?_) hsl
  unfold RepF at hr
  dsimp only at hr
  cases d <;> first | exact hr.elim | skip
  simp only [RepK, List.cons.injEq, and_true] at hr
  subst hr
  exact ⟨_, AppendUint16_c _, trivial⟩
theorem wv_flexS {t : Nat} {f : Fld} {ca cb : Code} {enc : Bs} (hfl : E.fl = true) (hsl : E.sl m k [t] [x] = true)
    (ha : E.flex = true → WrC E m k ca (PrF E x f d) enc) (hb' : E.flex = false → WrC E m k cb (PrF E x f d) enc) :
    WrC E m k (.seq (.region r0 #[⟨some t, .move (.tmp E.sF), y0, q0, e0, none⟩] false) (.cond (.tmp t) ca cb)) (PrF E x f d) enc := by
  obtain ⟨hE, hfr, hrd, hnd⟩ := sl_out hsl
  simp only [List.nodup_cons, List.mem_cons, List.mem_append, List.cons_append, List.nil_append, List.not_mem_nil, or_false, not_or, List.nodup_nil, and_true, not_false_eq_true] at hnd
  exact wv_flex hfl ha hb' (PrF.put (by first | (simp only [hnd, not_false_eq_true, ne_eq]; done) | (intro e; simp [e] at hnd))) ⟨hE, hfr t (by simp), (by first | (simp only [hnd, not_false_eq_true, ne_eq]; done) | (intro e; simp [e] at hnd))⟩
theorem encF_text (h : a3 < 0) (l : Bs) : encF E.flex E.ver (.mk .text a1 a2 a3 a4 a5 of sub) (.str l) = encStr E.flex l := by
  unfold encF; dsimp only; rw [if_pos h]; rfl
theorem rep_text {w : World} {G : Nat → Prop} {fl : Bool} {val : Value} (h : a3 < 0) (hr : RepF w G fl (.mk .text a1 a2 a3 a4 a5 of sub) d [val]) : ∃ l, d = .str l ∧ val = .string ⟨l.toArray⟩ := by
  unfold RepF at hr
  dsimp only at hr
  rw [if_pos h] at hr
  cases d <;> first | exact hr.elim | skip
  simp only [RepK, List.cons.injEq, and_true] at hr
  exact ⟨_, rfl, hr⟩
theorem wv_string (h : decide (a3 < 0) = true) (hx : E.flex = false) (hsl : E.sl m k [t1, t2, t3] [x] = true) :
    WrC E m k (.region r0 #[⟨some t1, .move (.tmp 1), y0, q0, e0, none⟩, ⟨some t2, .move (.tmp x), y1, q1, e1, none⟩, ⟨some t3, .call { callee := .value (.func 19), args := #[.tmp t1, .tmp t2], argTypes := us }, y2, q2, e2, none⟩, ⟨some 1, .assign (.tmp t3), y3, q3, e3, none⟩] false)
      (PrF E x (.mk .text a1 a2 a3 a4 a5 of sub) d) (encF E.flex E.ver (.mk .text a1 a2 a3 a4 a5 of sub) d) := by
  refine wv_callS (fun args w => Tryd.call19 args w) (fun w base val hr => ?_) hsl
  obtain ⟨l, rfl, rfl⟩ := rep_text (of_decide_eq_true h) hr
  refine ⟨fun _ => True, ?_, trivial⟩
  rw [encF_text (of_decide_eq_true h), hx]
  exact AppendString_c l
theorem wv_cstring (h : decide (a3 < 0) = true) (hx : E.flex = true) (hsl : E.sl m k [t1, t2, t3] [x] = true) :
    WrC E m k (.region r0 #[⟨some t1, .move (.tmp 1), y0, q0, e0, none⟩, ⟨some t2, .move (.tmp x), y1, q1, e1, none⟩, ⟨some t3, .call { callee := .value (.func 18), args := #[.tmp t1, .tmp t2], argTypes := us }, y2, q2, e2, none⟩, ⟨some 1, .assign (.tmp t3), y3, q3, e3, none⟩] false)
      (PrF E x (.mk .text a1 a2 a3 a4 a5 of sub) d) (encF E.flex E.ver (.mk .text a1 a2 a3 a4 a5 of sub) d) := by
  refine wv_callS (fun args w => Tryd.call18 args w) (fun w base val hr => ?_) hsl
  obtain ⟨l, rfl, rfl⟩ := rep_text (of_decide_eq_true h) hr
  refine ⟨fun _ => True, ?_, trivial⟩
  rw [encF_text (of_decide_eq_true h), hx]
  exact AppendCompactString_c l
theorem rep_ntext {w : World} {G : Nat → Prop} {fl : Bool} {val : Value} (h : 0 ≤ a3) (hr : RepF w G fl (.mk .text a1 a2 a3 a4 a5 of sub) d [val]) :
    (d = .nstr none ∧ val = .pointer none) ∨ ∃ l p, d = .nstr (some l) ∧ val = .pointer (some p) ∧ w.cell? p = some (.string ⟨l.toArray⟩) := by
  unfold RepF at hr
  dsimp only at hr
  rw [if_neg (by omega)] at hr
  split at hr
  · simp only [List.cons.injEq, and_true] at hr; exact .inl ⟨rfl, hr⟩
  · obtain ⟨b, cs, T, h1, h2, h3, h4⟩ := hr
    simp only [List.cons.injEq, and_true] at h1
    refine .inr ⟨_, _, rfl, h1, ?_⟩
    rw [h3.cell]; exact h4
  · exact hr.elim
theorem encF_otext (h : 0 ≤ a3) (hv : ¬ a3 ≤ E.ver) (o : Option Bs) : encF E.flex E.ver (.mk .text a1 a2 a3 a4 a5 of sub) (.nstr o) = encStr E.flex (o.getD []) := by
  unfold encF; dsimp only; rw [if_neg (by omega), if_pos (by omega)]
theorem wv_otext {T1 T2 vv y u1 u2 u3 u4 u5 u6 ty tyS ty2 : Nat} {n : Int} {c1 c2 : Code} (hn : (decide (0 ≤ a3) && decide (a3 = n)) = true) (hty : ptrB Tryd.prog ty = true) (htyS : scalB Tryd.prog tyS = true)
    (hsl : E.sl m k [T1, T2, vv, y, u1, u2, u3, u4, u5, u6] [x] = true) (hsl2 : E.sl (y + 1) k [] [y] = true) (hm : decide (m ≤ y + 1) = true)
    (h1 : ∀ l, WrC E (y + 1) k c1 (PrF E y (.mk .text a1 a2 (-1) a4 a5 of sub) (.str l)) (encF E.flex E.ver (.mk .text a1 a2 (-1) a4 a5 of sub) (.str l)))
    (h2 : a3 ≤ E.ver → WrC E m k c2 (PrF E x (.mk .text a1 a2 a3 a4 a5 of sub) d) (encF E.flex E.ver (.mk .text a1 a2 a3 a4 a5 of sub) d)) :
    WrC E m k (.seq (.region r0 #[⟨some T1, .move (.tmp E.sV), y0, q0, e0, none⟩, ⟨some T2, .binOp .lss ty2 (.tmp T1) (.const (.int .i16 n)) ty2, y1, q1, e1, none⟩] false)
      (.cond (.tmp T2)
        (.seq (.region r1 #[⟨some vv, .assign (.const (.string ⟨#[]⟩)), y2, q2, e2, none⟩] false)
          (.seq (.seq (.region r2 #[⟨some u1, .move (.tmp x), y3, q3, e3, none⟩, ⟨some u2, .binOp .neq ty (.tmp u1) (.const (.pointer none)) ty, y4, q4, e4, none⟩] false)
              (.cond (.tmp u2) (.region r3 #[⟨some u3, .move (.tmp x), y5, q5, e5, none⟩, ⟨some u4, .nilCheck (.tmp u3), y6, q6, e6, none⟩, ⟨some u5, .load tyS (.tmp u4), y7, q7, e7, none⟩, ⟨some vv, .assign (.tmp u5), y8, q8, e8, none⟩] false) .skip))
            (.seq (.region r4 #[⟨some u6, .move (.tmp vv), y9, q9, e9, none⟩, ⟨some y, .assign (.tmp u6), y10, q10, e10, none⟩] false) c1)))
        c2)) (PrF E x (.mk .text a1 a2 a3 a4 a5 of sub) d) (encF E.flex E.ver (.mk .text a1 a2 a3 a4 a5 of sub) d) := by
  simp only [Bool.and_eq_true, decide_eq_true_eq] at hn
  obtain ⟨hE, hfr, hrd, hnd⟩ := sl_out hsl
  have hsV : ∀ t ∈ [T1, T2, vv, y, u1, u2, u3, u4, u5, u6], t ≠ E.sV := by
    intro t ht e
    have h1 := hE.1
    have := hfr t (List.mem_cons_of_mem _ ht)
    rw [e] at this
    exact this.1 h1
  simp only [List.mem_cons, List.not_mem_nil, or_false, forall_eq_or_imp, forall_eq] at hsV
  simp only [List.nodup_cons, List.mem_cons, List.mem_append, List.cons_append, List.nil_append, List.not_mem_nil, or_false, not_or, List.nodup_nil, and_true, not_false_eq_true] at hnd
  simp only [List.mem_cons, List.not_mem_nil, or_false, forall_eq_or_imp, forall_eq, Fre] at hfr
  intro a w base v bs hwk hv hown hb hpre hlim
  have hN := hwk.1
  obtain ⟨val, g1, hr⟩ := hpre
  refine wp_seq_k fun K hK => ?_
  refine zai ?_
  refine zal ?_
  rw [zac, hwk.2.2.1]
  refine wl_lss (by simp only [zac, zaf, zag, zaa, zab, zad, ne_eq, zae, hN, hnd, hfr, not_false_eq_true, sameK, decide_true]) ?_
  simp only [zac, zaf, zag, zaa, zab, zad, ne_eq, zae, hN, hnd, hfr, not_false_eq_true, cmp2]
  refine zah (hK _ _ ?_)
  clear hK K
  by_cases hc : E.ver < n
  · rw [decide_eq_true hc]
    refine wp_cond_true (by simp only [zac, zaf, zag, zaa, zab, zad, ne_eq, zae, hN, hnd, hfr, not_false_eq_true]) ?_
    refine wp_seq_k fun K hK => ?_
    refine zai ?_
    refine zak ?_
    simp only [zac, zaf, zag, zaa, zab, zad, ne_eq, zae, hN, hnd, hfr, not_false_eq_true]
    refine zah (hK _ _ ?_)
    clear hK K
    refine wp_seq_k fun K hK => ?_
    refine wp_seq_k fun K2 hK2 => ?_
    refine zai ?_
    refine zal ?_
    simp only [zac, zaf, zag, zaa, zab, zad, ne_eq, zae, hN, hnd, hfr, not_false_eq_true, g1]
    have hf0 : decide ((-1 : Int) < 0) = true := rfl
    rcases rep_ntext hn.1 hr with ⟨rfl, rfl⟩ | ⟨l, p, rfl, rfl, hcell⟩
    · refine wl_neqNil hty (by simp only [zac, zaf, zag, zaa, zab, zad, ne_eq, zae, hN, hnd, hfr, not_false_eq_true, isP]) ?_
      simp only [zac, zaf, zag, zaa, zab, zad, ne_eq, zae, hN, hnd, hfr, not_false_eq_true, isNilV, notV, Option.isNone_none, Bool.not_true]
      refine zah (hK2 _ _ ?_)
      refine wp_cond_false (by simp only [zac, zaf, zag, zaa, zab, zad, ne_eq, zae, hN, hnd, hfr, not_false_eq_true]) ?_
      refine wp_skip (hK _ _ ?_)
      clear hK K hK2 K2
      refine wp_seq_k fun K hK => ?_
      refine zai ?_
      refine zal ?_
      simp only [zac, zaf, zag, zaa, zab, zad, ne_eq, zae, hN, hnd, hfr, not_false_eq_true]
      refine zak ?_
      simp only [zac, zaf, zag, zaa, zab, zad, ne_eq, zae, hN, hnd, hfr, not_false_eq_true]
      refine zah (hK _ _ ?_)
      have e : encF E.flex E.ver (.mk .text a1 a2 a3 a4 a5 of sub) (.nstr none) = encF E.flex E.ver (.mk .text a1 a2 (-1) a4 a5 of sub) (.str []) := by
        rw [encF_otext hn.1 (by omega), encF_text (by decide)]; rfl
      rw [e] at hlim ⊢
      refine wr_go (of_decide_eq_true hm) (Nat.le_refl _) hE (h1 []) hwk hv hown hb hlim (by ((repeat (with_reducible refine zam.put ?_ (by simp only [hfr, not_false_eq_true]) _)); with_reducible exact zam.refl _ _)) (by simp only [zac, zaf, zag, zaa, zab, zad, ne_eq, zae, hN, hnd, hfr, not_false_eq_true]) ⟨_, by simp only [zac, zaf, zag, zaa, zab, zad, ne_eq, zae, hN, hnd, hfr, not_false_eq_true]; rfl, ?_⟩
      unfold RepF; dsimp only; rw [if_pos (by decide)]; rfl
    · refine wl_neqNil hty (by simp only [zac, zaf, zag, zaa, zab, zad, ne_eq, zae, hN, hnd, hfr, not_false_eq_true, isP]) ?_
      simp only [zac, zaf, zag, zaa, zab, zad, ne_eq, zae, hN, hnd, hfr, not_false_eq_true, isNilV, notV, Option.isNone_some, Bool.not_false]
      refine zah (hK2 _ _ ?_)
      refine wp_cond_true (by simp only [zac, zaf, zag, zaa, zab, zad, ne_eq, zae, hN, hnd, hfr, not_false_eq_true]) ?_
      refine zai ?_
      refine zal ?_
      simp only [zac, zaf, zag, zaa, zab, zad, ne_eq, zae, hN, hnd, hfr, not_false_eq_true, g1]
      refine zaI (p := p) (by simp only [zac, zaf, zag, zaa, zab, zad, ne_eq, zae, hN, hnd, hfr, not_false_eq_true]) ?_
      refine wl_loadC htyS (by simp only [zac, zaf, zag, zaa, zab, zad, ne_eq, zae, hN, hnd, hfr, not_false_eq_true]) hcell ?_
      refine zak ?_
      simp only [zac, zaf, zag, zaa, zab, zad, ne_eq, zae, hN, hnd, hfr, not_false_eq_true]
      refine zah (hK _ _ ?_)
      clear hK K hK2 K2
      refine wp_seq_k fun K hK => ?_
      refine zai ?_
      refine zal ?_
      simp only [zac, zaf, zag, zaa, zab, zad, ne_eq, zae, hN, hnd, hfr, not_false_eq_true]
      refine zak ?_
      simp only [zac, zaf, zag, zaa, zab, zad, ne_eq, zae, hN, hnd, hfr, not_false_eq_true]
      refine zah (hK _ _ ?_)
      have e : encF E.flex E.ver (.mk .text a1 a2 a3 a4 a5 of sub) (.nstr (some l)) = encF E.flex E.ver (.mk .text a1 a2 (-1) a4 a5 of sub) (.str l) := by
        rw [encF_otext hn.1 (by omega), encF_text (by decide)]; rfl
      rw [e] at hlim ⊢
      refine wr_go (of_decide_eq_true hm) (Nat.le_refl _) hE (h1 l) hwk hv hown hb hlim (by ((repeat (with_reducible refine zam.put ?_ (by simp only [hfr, not_false_eq_true]) _)); with_reducible exact zam.refl _ _)) (by simp only [zac, zaf, zag, zaa, zab, zad, ne_eq, zae, hN, hnd, hfr, not_false_eq_true]) ⟨_, by simp only [zac, zaf, zag, zaa, zab, zad, ne_eq, zae, hN, hnd, hfr, not_false_eq_true]; rfl, ?_⟩
      unfold RepF; dsimp only; rw [if_pos (by decide)]; rfl
  · rw [decide_eq_false hc]
    refine wp_cond_false (by simp only [zac, zaf, zag, zaa, zab, zad, ne_eq, zae, hN, hnd, hfr, not_false_eq_true]) ?_
    exact wr_go (Nat.le_refl _) (Nat.le_refl _) hE (h2 (by omega)) hwk hv hown hb hlim (by ((repeat (with_reducible refine zam.put ?_ (by simp only [hfr, not_false_eq_true]) _)); with_reducible exact zam.refl _ _)) (by simp only [zac, zaf, zag, zaa, zab, zad, ne_eq, zae, hN, hnd, hfr, not_false_eq_true]) ⟨val, by simp only [zac, zaf, zag, zaa, zab, zad, ne_eq, zae, hN, hnd, hfr, not_false_eq_true, g1], hr⟩
theorem wf_load {sS k0 i T idx ty : Nat} {fs : List Fld} {s : S} {f : Fld} {c : Code} {enc : Bs}
    (hf : fs[i]? = some f) (hd : s.ds[i]? = some d) (hB : (fsz E.fl f == 1 && zaR Tryd.prog T idx (k0 + foff E.fl fs i) 1 && scalB Tryd.prog ty) = true)
    (hsl : E.sl m k [t1, t2, t3, t4, x] [sS] = true) (hm : decide (m ≤ x + 1) = true) (h : WrC E (x + 1) k c (PrF E x f d) enc) :
    WrC E m k (.seq (.region r0 #[⟨some t1, .move (.tmp sS), y0, q0, e0, none⟩, ⟨some t2, .nilCheck (.tmp t1), y1, q1, e1, none⟩, ⟨some t3, .fieldAddr T (.tmp t2) idx, y2, q2, e2, none⟩, ⟨some t4, .load ty (.tmp t3), y3, q3, e3, none⟩, ⟨some x, .assign (.tmp t4), y4, q4, e4, none⟩] false) c) (PrS E sS k0 fs s) enc := by
  simp only [Bool.and_eq_true, beq_iff_eq] at hB
  obtain ⟨⟨b1, b2⟩, b4⟩ := hB
  obtain ⟨hE, hfr, hrd, hnd⟩ := sl_out hsl
  simp only [List.nodup_cons, List.mem_cons, List.mem_append, List.cons_append, List.nil_append, List.not_mem_nil, or_false, not_or, List.nodup_nil, and_true, not_false_eq_true] at hnd
  simp only [List.mem_cons, List.not_mem_nil, or_false, forall_eq_or_imp, forall_eq] at hfr
  exact wr_field hf hd b1 b2 rfl b4 ⟨hE, of_decide_eq_true hm, Nat.le_refl _, hfr.2.1, hfr.2.2.1, hfr.2.2.2.1, hfr.2.2.2.2.1, hfr.2.2.2.2.2, (by first | (simp only [hnd, not_false_eq_true, ne_eq]; done) | (intro e; simp [e] at hnd)), (by first | (simp only [hnd, not_false_eq_true, ne_eq]; done) | (intro e; simp [e] at hnd)), (by first | (simp only [hnd, not_false_eq_true, ne_eq]; done) | (intro e; simp [e] at hnd)), (by first | (simp only [hnd, not_false_eq_true, ne_eq]; done) | (intro e; simp [e] at hnd)), (by first | (simp only [hnd, not_false_eq_true, ne_eq]; done) | (intro e; simp [e] at hnd))⟩ h
end
end Go.Proofs.YtojpodeljpfgaabDoor
namespace Go.Proofs.YtojpodeljpfgaabDoor
set_option linter.all false
open Go.RowKit
set_option maxRecDepth 10000
def tagsEnc (E : WEnv) (fs : List Fld) (s : S) : Bs := if E.flex then zaM (zao E.flex E.ver fs s.ds).1 (zao E.flex E.ver fs s.ds).2 s.tags else []
def partEnc (E : WEnv) (fs : List Fld) (s : S) : Bs := fTail E fs s 0 (tagsEnc E fs s)
theorem partEnc_eq (E : WEnv) (fs : List Fld) (s : S) : partEnc E fs s = zay E.flex E.ver fs s := by
  unfold partEnc fTail zay tagsEnc; simp only [List.drop_zero]
def lenEnc (E : WEnv) (nl : Int) (nil : Bool) (n : Nat) : Bs := if nl < 0 ∨ E.ver < nl then encLen E.flex n else encNLen E.flex nil n
theorem encKnown_none (flex : Bool) (ver : Int) : ∀ (fs : List Fld) (ds : List D), anyTag fs = false → zao flex ver fs ds = (0, [])
  | [], _, _ => by simp [zao]
  | f :: r, [], _ => by simp [zao]
  | f :: r, d :: ds, h => by
    simp only [anyTag, Bool.or_eq_false_iff, decide_eq_false_iff_not] at h
    rw [zao, encKnown_none flex ver r ds h.2]
    dsimp only
    rw [if_neg (fun x => h.1 x.1)]
section
variable {E : WEnv} {m k : Nat} {y0 y1 y2 y3 y4 y5 y6 y7 y8 y9 y10 y11 y12 y13 y14 y15 y16 y17 y18 y19 y20 y21 y22 y23 y24 y25 y26 y27 y28 y29 y30 y31 y32 y33 y34 y35 y36 y37 y38 y39 : TypeId} {q0 q1 q2 q3 q4 q5 q6 q7 q8 q9 q10 q11 q12 q13 q14 q15 q16 q17 q18 q19 q20 q21 q22 q23 q24 q25 q26 q27 q28 q29 q30 q31 q32 q33 q34 q35 q36 q37 q38 q39 : String} {e0 e1 e2 e3 e4 e5 e6 e7 e8 e9 e10 e11 e12 e13 e14 e15 e16 e17 e18 e19 e20 e21 e22 e23 e24 e25 e26 e27 e28 e29 e30 e31 e32 e33 e34 e35 e36 e37 e38 e39 : Array Edge} {r0 r1 r2 r3 r4 r5 : Nat}
variable {a1 a2 a3 a4 a5 : Int} {of : K} {sub : List Fld} {d : D} {x t1 t2 t3 t4 t5 t6 : Nat} {us : Array TypeId}
theorem encF_listS (l : List D) (nil : Bool) : encF E.flex E.ver (.mk .list a1 a2 a3 a4 a5 .struct sub) (.arr nil l) = lenEnc E a3 nil l.length ++ (List.range l.length).flatMap (encAtS (partEnc E sub) l) := by
  rw [flat_encAtS]
  unfold encF lenEnc
  dsimp only
  congr 2
theorem encF_listK (h1 : of ≠ .struct) (h2 : of ≠ .list) (l : List D) (nil : Bool) : encF E.flex E.ver (.mk .list a1 a2 a3 a4 a5 of sub) (.arr nil l) = lenEnc E a3 nil l.length ++ (List.range l.length).flatMap (encAtK (encF E.flex E.ver (kf of)) l) := by
  rw [flat_encAtK]
  have e : encF E.flex E.ver (kf of) = encK of E.flex := by
    funext d
    unfold kf encF
    cases of <;> first | rfl | exact absurd rfl h1 | exact absurd rfl h2
  rw [e]
  unfold encF lenEnc
  dsimp only
  congr 1
  cases of <;> first | exact absurd rfl h1 | exact absurd rfl h2 | rfl
theorem wn_flex {t : Nat} {oa : Option Addr} {n cap : Nat} {M : World → Nat → Prop} {ca cb : Code} {enc : Bs} (hfl : E.fl = true) (hsl : E.sl m k [t] [x] = true)
    (ha : E.flex = true → WrC E m k ca (PrL x oa n cap M) enc) (hb' : E.flex = false → WrC E m k cb (PrL x oa n cap M) enc) :
    WrC E m k (.seq (.region r0 #[⟨some t, .move (.tmp E.sF), y0, q0, e0, none⟩] false) (.cond (.tmp t) ca cb)) (PrL x oa n cap M) enc := by
  obtain ⟨hE, hfr, hrd, hnd⟩ := sl_out hsl
  simp only [List.nodup_cons, List.mem_cons, List.mem_append, List.cons_append, List.nil_append, List.not_mem_nil, or_false, not_or, List.nodup_nil, and_true, not_false_eq_true] at hnd
  exact wv_flex hfl ha hb' (PrL.put (by first | (simp only [hnd, not_false_eq_true, ne_eq]; done) | (intro e; simp [e] at hnd))) ⟨hE, hfr t (by simp), (by first | (simp only [hnd, not_false_eq_true, ne_eq]; done) | (intro e; simp [e] at hnd))⟩
theorem wn_ver {u : Nat} {oa : Option Addr} {n cap : Nat} {M : World → Nat → Prop} {ca cb : Code} {enc : Bs} {z : Int} (hsl : E.sl m k [t1, t2] [x] = true)
    (ha : z ≤ E.ver → WrC E m k ca (PrL x oa n cap M) enc) (hb' : ¬ z ≤ E.ver → WrC E m k cb (PrL x oa n cap M) enc) :
    WrC E m k (.seq (.region r0 #[⟨some t1, .move (.tmp E.sV), y0, q0, e0, none⟩, ⟨some t2, .binOp .geq u (.tmp t1) (.const (.int .i16 z)) u, y1, q1, e1, none⟩] false) (.cond (.tmp t2) ca cb)) (PrL x oa n cap M) enc := by
  obtain ⟨hE, hfr, hrd, hnd⟩ := sl_out hsl
  simp only [List.nodup_cons, List.mem_cons, List.mem_append, List.cons_append, List.nil_append, List.not_mem_nil, or_false, not_or, List.nodup_nil, and_true, not_false_eq_true] at hnd
  exact wv_ver ha hb' (PrL.put (by first | (simp only [hnd, not_false_eq_true, ne_eq]; done) | (intro e; simp [e] at hnd))) (PrL.put (by first | (simp only [hnd, not_false_eq_true, ne_eq]; done) | (intro e; simp [e] at hnd))) ⟨hE, hfr t1 (by simp), hfr t2 (by simp), (by first | (simp only [hnd, not_false_eq_true, ne_eq]; done) | (intro e; simp [e] at hnd)), (by first | (simp only [hnd, not_false_eq_true, ne_eq]; done) | (intro e; simp [e] at hnd))⟩
theorem lenEnc_plain {nil : Bool} {n : Nat} (h : a3 < 0 ∨ E.ver < a3) : lenEnc E a3 nil n = encLen E.flex n := by unfold lenEnc; rw [if_pos h]
theorem wn_call {ty n cap : Nat} {oa : Option Addr} {M : World → Nat → Prop} {enc : Bs} {fn : FuncId} (hty : slB Tryd.prog ty = true) (hen : zaK Tryd.prog fn)
    (hc : AppC fn [.int .i64 n] enc (fun _ => True)) (hsl : E.sl m k [t1, t2, t3, t4] [x] = true) :
    WrC E m k (.region r0 #[⟨some t1, .move (.tmp 1), y0, q0, e0, none⟩, ⟨some t2, .move (.tmp x), y1, q1, e1, none⟩, ⟨some t3, .call { callee := .builtin .len, args := #[.tmp t2], argTypes := #[ty] }, y2, q2, e2, none⟩, ⟨some t4, .call { callee := .value (.func fn), args := #[.tmp t1, .tmp t3], argTypes := us }, y3, q3, e3, none⟩, ⟨some 1, .assign (.tmp t4), y4, q4, e4, none⟩] false)
      (PrL x oa n cap M) enc := by
  obtain ⟨hE, hfr, hrd, hnd⟩ := sl_out hsl
  exact wl_alen hty hen hc hfr (by simpa using hnd)
theorem wn_plain {ty n cap : Nat} {oa : Option Addr} {M : World → Nat → Prop} (h : a3 < 0 ∨ E.ver < a3) (hx : E.flex = false) (hty : slB Tryd.prog ty = true) (hsl : E.sl m k [t1, t2, t3, t4] [x] = true) :
    WrC E m k (.region r0 #[⟨some t1, .move (.tmp 1), y0, q0, e0, none⟩, ⟨some t2, .move (.tmp x), y1, q1, e1, none⟩, ⟨some t3, .call { callee := .builtin .len, args := #[.tmp t2], argTypes := #[ty] }, y2, q2, e2, none⟩, ⟨some t4, .call { callee := .value (.func 17), args := #[.tmp t1, .tmp t3], argTypes := us }, y3, q3, e3, none⟩, ⟨some 1, .assign (.tmp t4), y4, q4, e4, none⟩] false)
      (PrL x oa n cap M) (lenEnc E a3 oa.isNone n) := by
  rw [lenEnc_plain h, hx]
  exact wn_call hty (fun args w => Tryd.call17 args w) (AppendArrayLen_c n) hsl
theorem wn_cplain {ty n cap : Nat} {oa : Option Addr} {M : World → Nat → Prop} (h : a3 < 0 ∨ E.ver < a3) (hx : E.flex = true) (hty : slB Tryd.prog ty = true) (hsl : E.sl m k [t1, t2, t3, t4] [x] = true) :
    WrC E m k (.region r0 #[⟨some t1, .move (.tmp 1), y0, q0, e0, none⟩, ⟨some t2, .move (.tmp x), y1, q1, e1, none⟩, ⟨some t3, .call { callee := .builtin .len, args := #[.tmp t2], argTypes := #[ty] }, y2, q2, e2, none⟩, ⟨some t4, .call { callee := .value (.func 16), args := #[.tmp t1, .tmp t3], argTypes := us }, y3, q3, e3, none⟩, ⟨some 1, .assign (.tmp t4), y4, q4, e4, none⟩] false)
      (PrL x oa n cap M) (lenEnc E a3 oa.isNone n) := by
  rw [lenEnc_plain h, hx]
  exact wn_call hty (fun args w => Tryd.call16 args w) (AppendCompactArrayLen_c n) hsl
theorem rep_list {w : World} {G : Nat → Prop} {fl : Bool} {val : Value} (hr : RepF w G fl (.mk .list a1 a2 a3 a4 a5 of sub) d [val]) : ∃ nil l, d = .arr nil l := by
  unfold RepF at hr
  dsimp only at hr
  cases d <;> first | exact hr.elim | exact ⟨_, _, rfl⟩
theorem wv_listS {u0 u1 u2 u3 u4 ty ti b1 b2 i y c1 c2 c3 c4 : Nat} {cl body : Code}
    (hl : ∀ (oa : Option Addr) (n cap : Nat) (M : World → Nat → Prop), WrC E m k cl (PrL x oa n cap M) (lenEnc E a3 oa.isNone n))
    (hty : sliceB Tryd.prog ty (ssz E.fl sub) = true) (hsl : E.sl m k [u0, u1, u2, u3, u4] [x] = true) (hsl2 : E.sl m (u2 + 1) [c1, i, c2, c3, c4, y] [x, u1, u2] = true) (hm : (decide (m ≤ y + 1) && decide (k ≤ u2 + 1)) = true)
    (hb : ∀ s : S, WrC E (y + 1) (u2 + 1) body (PrS E y 0 sub s) (partEnc E sub s)) :
    WrC E m k (.seq cl (.seq (.region r0 #[⟨some u0, .move (.tmp x), y0, q0, e0, none⟩, ⟨some u1, .call { callee := .builtin .len, args := #[.tmp u0], argTypes := #[ty] }, y1, q1, e1, none⟩, ⟨some u2, .move (.const (.int .i64 0)), y2, q2, e2, none⟩] false)
      (.block b1 (.loop (.seq (.region r1 #[⟨some u3, .binOp .lss ti (.tmp u2) (.tmp u1) ti, y3, q3, e3, none⟩] false) (.seq (.cond (.tmp u3) .skip (.exit b1)) (.seq (.block b2
          (.seq (.region r2 #[⟨some c1, .move (.tmp u2), y4, q4, e4, none⟩, ⟨some i, .assign (.tmp c1), y5, q5, e5, none⟩] false) (.seq (.region r3 #[⟨some c2, .move (.tmp x), y6, q6, e6, none⟩, ⟨some c3, .move (.tmp i), y7, q7, e7, none⟩, ⟨some c4, .indexAddr ty (.tmp c2) (.tmp c3), y8, q8, e8, none⟩, ⟨some y, .assign (.tmp c4), y9, q9, e9, none⟩] false) body)))
        (.region r4 #[⟨some u4, .binOp .add ti (.tmp u2) (.const (.int .i64 1)) ti, y10, q10, e10, none⟩, ⟨some u2, .move (.tmp u4), y11, q11, e11, none⟩] false))))))))
      (PrF E x (.mk .list a1 a2 a3 a4 a5 .struct sub) d) (encF E.flex E.ver (.mk .list a1 a2 a3 a4 a5 .struct sub) d) := by
  simp only [Bool.and_eq_true, decide_eq_true_eq] at hm
  obtain ⟨hE, hfr, hrd, hnd⟩ := sl_out hsl
  obtain ⟨hE2, hfr2, hrd2, hnd2⟩ := sl_out hsl2
  intro a w base v bs hwk hv hown hbb hpre hlim
  obtain ⟨val, g1, hr⟩ := hpre
  obtain ⟨nil, l, rfl⟩ := rep_list hr
  rw [encF_listS] at hlim ⊢
  refine wr_list (fun oa cap hn => by subst hn; exact hl oa l.length cap _) (fun oa cap hn => ?_) ⟨hE, hrd x (by simp)⟩ a w base v bs hwk hv hown hbb ⟨val, g1, hr⟩ hlim
  refine wr_loop (m' := m) (k' := u2 + 1) hty ML.stable hn (fun j hj => ?_) ⟨hE, hrd x (by simp), Nat.le_refl _, hm.2, hrd2 u1 (by simp), hrd2 u2 (by simp)⟩ (fun d hd => hfr d (List.mem_cons_of_mem _ hd)) (by simpa using hnd)
  have hnd3 : [1, x, u2, c1, i, c2, c3, c4, y].Nodup := by
    refine List.Nodup.sublist ?_ hnd2
    exact .cons_cons _ (.cons_cons _ (.cons _ (List.Sublist.refl _)))
  exact wr_elemS hty rfl rfl hj (fun s _ => hb s) ⟨hE2, hm.1, Nat.le_refl _⟩ (fun d hd => hfr2 d (List.mem_cons_of_mem _ hd)) hnd3
theorem wv_listK {u0 u1 u2 u3 u4 ty ty2 ti b1 b2 i y c1 c2 c3 c4 c5 : Nat} {cl body : Code}
    (hl : ∀ (oa : Option Addr) (n cap : Nat) (M : World → Nat → Prop), WrC E m k cl (PrL x oa n cap M) (lenEnc E a3 oa.isNone n))
    (hof : (decide (of ≠ .struct) && decide (of ≠ .list) && decide (ksz of = 1) && sliceB Tryd.prog ty 1 && scalB Tryd.prog ty2) = true)
    (hsl : E.sl m k [u0, u1, u2, u3, u4] [x] = true) (hsl2 : E.sl m (u2 + 1) [c1, i, c2, c3, c4, c5, y] [x, u1, u2] = true) (hm : (decide (m ≤ y + 1) && decide (k ≤ u2 + 1)) = true)
    (hb : ∀ d : D, WrC E (y + 1) (u2 + 1) body (PrF E y (kf of) d) (encF E.flex E.ver (kf of) d)) :
    WrC E m k (.seq cl (.seq (.region r0 #[⟨some u0, .move (.tmp x), y0, q0, e0, none⟩, ⟨some u1, .call { callee := .builtin .len, args := #[.tmp u0], argTypes := #[ty] }, y1, q1, e1, none⟩, ⟨some u2, .move (.const (.int .i64 0)), y2, q2, e2, none⟩] false)
      (.block b1 (.loop (.seq (.region r1 #[⟨some u3, .binOp .lss ti (.tmp u2) (.tmp u1) ti, y3, q3, e3, none⟩] false) (.seq (.cond (.tmp u3) .skip (.exit b1)) (.seq (.block b2
          (.seq (.region r2 #[⟨some c1, .move (.tmp u2), y4, q4, e4, none⟩, ⟨some i, .assign (.tmp c1), y5, q5, e5, none⟩] false) (.seq (.region r3 #[⟨some c2, .move (.tmp x), y6, q6, e6, none⟩, ⟨some c3, .move (.tmp i), y7, q7, e7, none⟩, ⟨some c4, .indexAddr ty (.tmp c2) (.tmp c3), y8, q8, e8, none⟩, ⟨some c5, .load ty2 (.tmp c4), y9, q9, e9, none⟩, ⟨some y, .assign (.tmp c5), y10, q10, e10, none⟩] false) body)))
        (.region r4 #[⟨some u4, .binOp .add ti (.tmp u2) (.const (.int .i64 1)) ti, y11, q11, e11, none⟩, ⟨some u2, .move (.tmp u4), y12, q12, e12, none⟩] false))))))))
      (PrF E x (.mk .list a1 a2 a3 a4 a5 of sub) d) (encF E.flex E.ver (.mk .list a1 a2 a3 a4 a5 of sub) d) := by
  simp only [Bool.and_eq_true, decide_eq_true_eq] at hm hof
  obtain ⟨⟨⟨⟨o1, o2⟩, o3⟩, o4⟩, o5⟩ := hof
  obtain ⟨hE, hfr, hrd, hnd⟩ := sl_out hsl
  obtain ⟨hE2, hfr2, hrd2, hnd2⟩ := sl_out hsl2
  intro a w base v bs hwk hv hown hbb hpre hlim
  obtain ⟨val, g1, hr⟩ := hpre
  obtain ⟨nil, l, rfl⟩ := rep_list hr
  rw [encF_listK o1 o2] at hlim ⊢
  refine wr_list (fun oa cap hn => by subst hn; exact hl oa l.length cap _) (fun oa cap hn => ?_) ⟨hE, hrd x (by simp)⟩ a w base v bs hwk hv hown hbb ⟨val, g1, hr⟩ hlim
  refine wr_loop (m' := m) (k' := u2 + 1) o4 ML.stable hn (fun j hj => ?_) ⟨hE, hrd x (by simp), Nat.le_refl _, hm.2, hrd2 u1 (by simp), hrd2 u2 (by simp)⟩ (fun d hd => hfr d (List.mem_cons_of_mem _ hd)) (by simpa using hnd)
  have hnd3 : [1, x, u2, c1, i, c2, c3, c4, c5, y].Nodup := by
    refine List.Nodup.sublist ?_ hnd2
    exact .cons_cons _ (.cons_cons _ (.cons _ (List.Sublist.refl _)))
  exact wr_elemK o4 o5 ⟨o1, o2, o3⟩ rfl hj (fun d _ => hb d) ⟨hE2, hm.1, Nat.le_refl _⟩ (fun d hd => hfr2 d (List.mem_cons_of_mem _ hd)) hnd3
theorem wv_again {y : Nat} {f : Fld} {c : Code} {enc : Bs} (hsl : E.sl m k [t1, y] [x] = true) (hm : decide (m ≤ y + 1) = true) (h : WrC E (y + 1) k c (PrF E y f d) enc) :
    WrC E m k (.seq (.region r0 #[⟨some t1, .move (.tmp x), y0, q0, e0, none⟩, ⟨some y, .assign (.tmp t1), y1, q1, e1, none⟩] false) c) (PrF E x f d) enc := by
  obtain ⟨hE, hfr, hrd, hnd⟩ := sl_out hsl
  exact wv_conv h ⟨hE, of_decide_eq_true hm, Nat.le_refl _⟩ (fun d hd => hfr d (List.mem_cons_of_mem _ hd)) hnd
theorem wf_inner {sS k0 i T idx y : Nat} {fs : List Fld} {s : S} {c : Code}
    (hf : fs[i]? = some (.mk .struct a1 a2 a3 a4 a5 of sub)) (hd : s.ds[i]? = some d) (hB : (zaR Tryd.prog T idx (k0 + foff E.fl fs i) (fsz E.fl (.mk .struct a1 a2 a3 a4 a5 of sub)) && decide (a3 < 0)) = true)
    (hsl : E.sl m k [t1, t2, t3, y] [sS] = true) (hm : decide (m ≤ y + 1) = true) (h : ∀ s' : S, WrC E (y + 1) k c (PrS E y 0 sub s') (partEnc E sub s')) :
    WrC E m k (.seq (.region r0 #[⟨some t1, .move (.tmp sS), y0, q0, e0, none⟩, ⟨some t2, .nilCheck (.tmp t1), y1, q1, e1, none⟩, ⟨some t3, .fieldAddr T (.tmp t2) idx, y2, q2, e2, none⟩, ⟨some y, .assign (.tmp t3), y3, q3, e3, none⟩] false) c) (PrS E sS k0 fs s)
      (encF E.flex E.ver (.mk .struct a1 a2 a3 a4 a5 of sub) d) := by
  simp only [Bool.and_eq_true, beq_iff_eq, decide_eq_true_eq] at hB
  obtain ⟨b1, b3⟩ := hB
  obtain ⟨hE, hfr, hrd, hnd⟩ := sl_out hsl
  intro a w base v bs hwk hv hown hbb hpre hlim
  have hl : ∃ s' : S, d = s'.d := by
    obtain ⟨B, p, g1, hat, hB⟩ := hpre
    obtain ⟨d', cs, Tb, k1, k2, k3, k4⟩ := hat.field hf
    rw [hd] at k1
    cases k1
    unfold RepF at k4
    dsimp only at k4
    rw [if_pos b3] at k4
    obtain ⟨s', h1, _⟩ := k4
    exact ⟨s', h1⟩
  obtain ⟨s', rfl⟩ := hl
  have e : encF E.flex E.ver (.mk .struct a1 a2 a3 a4 a5 of sub) s'.d = partEnc E sub s' := by
    rw [partEnc_eq]
    unfold encF
    dsimp only
    rw [if_pos b3]
    rfl
  rw [e] at hlim ⊢
  exact wr_inner hf b3 hd b1 rfl (h s') ⟨hE, of_decide_eq_true hm, Nat.le_refl _⟩ (fun d hd => hfr d (List.mem_cons_of_mem _ hd)) hnd a w base v bs hwk hv hown hbb hpre hlim
theorem wp_noflex {sS k0 : Nat} {fs : List Fld} {s : S} {c : Code} (hx : E.flex = false) (h : WrC E m k c (PrS E sS k0 fs s) (fTail E fs s 0 [])) : WrC E m k c (PrS E sS k0 fs s) (partEnc E fs s) := by
  unfold partEnc tagsEnc; rw [hx]; exact h
theorem wr_tail {sS k0 t t7 t8 u1 u2 u3 u4 u5 T T2 idx idx2 sl du : Nat} {us us2 us3 : Array TypeId} {fs : List Fld} {s : S}
    (hfl : E.fl = true) (hB : (!anyTag fs && zaR Tryd.prog T idx (k0 + lsz true fs) 1 && zaR Tryd.prog T2 idx2 (k0 + lsz true fs) 1 && someB Tryd.prog sl && isIntT Tryd.prog du) = true) (hk : kindOf Tryd.prog du = .u32)
    (hsl : E.sl m k [t, t1, t2, t3, t4, t5, t6, t7, t8, u1, u2, u3, u4, u5] [sS] = true) :
    WrC E m k (.seq (.region r2 #[⟨some t, .move (.tmp E.sF), y0, q0, e0, none⟩] false) (.cond (.tmp t) (.seq (.region r0 #[⟨some t1, .move (.tmp 1), y1, q1, e1, none⟩, ⟨some t2, .move (.tmp sS), y2, q2, e2, none⟩, ⟨some t3, .nilCheck (.tmp t2), y3, q3, e3, none⟩, ⟨some t4, .fieldAddr T (.tmp t3) idx, y4, q4, e4, none⟩,
        ⟨some t5, .call { callee := .value (.func 22), args := #[.tmp t4], argTypes := us }, y5, q5, e5, none⟩, ⟨some t6, .convert sl du (.tmp t5), y6, q6, e6, none⟩,
        ⟨some t7, .binOp .add du (.const (.int .u32 0)) (.tmp t6) du, y7, q7, e7, none⟩, ⟨some t8, .call { callee := .value (.func 21), args := #[.tmp t1, .tmp t7], argTypes := us2 }, y8, q8, e8, none⟩, ⟨some 1, .assign (.tmp t8), y9, q9, e9, none⟩] false)
      (.region r1 #[⟨some u1, .move (.tmp sS), y10, q10, e10, none⟩, ⟨some u2, .nilCheck (.tmp u1), y11, q11, e11, none⟩, ⟨some u3, .fieldAddr T2 (.tmp u2) idx2, y12, q12, e12, none⟩, ⟨some u4, .move (.tmp 1), y13, q13, e13, none⟩,
        ⟨some u5, .call { callee := .value (.func 23), args := #[.tmp u3, .tmp u4], argTypes := us3 }, y14, q14, e14, none⟩, ⟨some 1, .assign (.tmp u5), y15, q15, e15, none⟩] false)) .skip)) (PrS E sS k0 fs s) (tagsEnc E fs s) := by
  simp only [Bool.and_eq_true, beq_iff_eq, Bool.not_eq_true'] at hB
  obtain ⟨⟨⟨⟨b0, b1⟩, b3⟩, b5⟩, b6⟩ := hB
  obtain ⟨hE, hfr, hrd, hnd⟩ := sl_out hsl
  have e : tagsEnc E fs s = if E.flex then zaM 0 [] s.tags else [] := by unfold tagsEnc; rw [encKnown_none _ _ _ _ b0]
  rw [e]
  have hfr2 : ∀ d ∈ [1, t1, t2, t3, t4, t5, t6, t7, t8, u1, u2, u3, u4, u5], Fre E m k d := fun d hd => hfr d (by
    rcases List.mem_cons.1 hd with rfl | h
    · simp
    · exact List.mem_cons_of_mem _ (List.mem_cons_of_mem _ h))
  have hnd2 : [1, sS, t1, t2, t3, t4, t5, t6, t7, t8, u1, u2, u3, u4, u5].Nodup := hnd.sublist (.cons_cons _ (.cons_cons _ (.cons _ (List.Sublist.refl _))))
  have ht := hfr t (by simp)
  simp only [List.nodup_cons, List.mem_cons, List.mem_append, List.cons_append, List.nil_append, List.not_mem_nil, or_false, not_or, List.nodup_nil, and_true, not_false_eq_true] at hnd
  exact wr_ifflex hfl (fun _ => wr_tags hfl b1 rfl b3 rfl ⟨b5, b6, hk⟩ ⟨hE, hrd sS (by simp)⟩ hfr2 hnd2) (PrS.put (by first | (simp only [hnd, not_false_eq_true, ne_eq]; done) | (intro e; simp [e] at hnd))) ⟨hE, ht, (by first | (simp only [hnd, not_false_eq_true, ne_eq]; done) | (intro e; simp [e] at hnd))⟩
theorem wr_start {sS k0 : Nat} {fs : List Fld} {s : S} {c : Code} (h : WrC E m k c (PrS E sS k0 fs s) (fTail E fs s 0 (tagsEnc E fs s))) : WrC E m k c (PrS E sS k0 fs s) (partEnc E fs s) := h
def WrT (E : WEnv) (m k r : Nat) (c : Code) (pre : Act → World → Nat → Prop) (enc : Bs) : Prop :=
  ∀ (a : Act) (w : World) (base : Nat) (v : Value) (bs : Bs), WOK E a → get a 1 = v → Own eB w base v bs → base ≤ w.heap.size → pre a w base → bs.length + enc.length ≤ LIM →
    c.wp Tryd.prog (Fin r (App eB w base v (bs ++ enc))) a w
theorem wt_start {r sS k0 : Nat} {fs : List Fld} {s : S} {c : Code} (h : WrT E m k r c (PrS E sS k0 fs s) (fTail E fs s 0 (tagsEnc E fs s))) : WrT E m k r c (PrS E sS k0 fs s) (partEnc E fs s) := h
theorem wt_seq {r : Nat} {c1 c2 : Code} {pre : Act → World → Nat → Prop} {enc1 enc2 : Bs} (hE : E.safe m k) (h1 : WrC E m k c1 pre enc1) (h2 : WrT E m k r c2 pre enc2) (hs : Stable E m k pre pre) : WrT E m k r (.seq c1 c2) pre (enc1 ++ enc2) := by
  intro a w base v bs hok hv hown hb hpre hlim
  rw [List.length_append] at hlim
  refine wp_seq (wp_mono (h1 a w base v bs hok hv hown hb hpre (by omega)) ?_)
  intro e a1 w1 hq
  cases e <;> try exact hq.elim
  obtain ⟨hk, happ⟩ := hq
  have hc := happ.chgFrom hown
  refine wp_mono (h2 a1 w1 base _ _ (hok.keep hk hE.1 hE.2) rfl happ.own (Nat.le_trans hb hc.size) (hs _ _ _ _ _ hpre hk hc hb) (by rw [List.length_append]; omega)) ?_
  intro e a2 w2 hq
  cases e <;> simp only [Fin] at hq ⊢ <;> exact ⟨hq.1, by rw [← List.append_assoc]; exact happ.trans hq.2⟩
theorem wt_next {r sS k0 i : Nat} {fs : List Fld} {s : S} {f : Fld} {tl : Bs} {c1 c2 : Code} (hf : fs[i]? = some f) (hsl : E.sl m k [] [sS] = true)
    (h1 : ∀ d, s.ds[i]? = some d → WrC E m k c1 (PrS E sS k0 fs s) (fEnc E f d)) (h2 : WrT E m k r c2 (PrS E sS k0 fs s) (fTail E fs s (i + 1) tl)) :
    WrT E m k r (.seq c1 c2) (PrS E sS k0 fs s) (fTail E fs s i tl) := by
  intro a w base v bs hwk hv hown hb hpre hlim
  obtain ⟨d, hd⟩ := hpre.at_d hf
  rw [fTail_step hf hd] at hlim ⊢
  obtain ⟨hE, _, hr, _⟩ := sl_out hsl
  exact wt_seq hE (h1 d hd) h2 (PrS.stable (hr sS (by simp))) a w base v bs hwk hv hown hb hpre hlim
theorem wt_tagged {r sS k0 i : Nat} {fs : List Fld} {s : S} {f : Fld} {tl : Bs} {c : Code} (hf : fs[i]? = some f) (ht : decide (0 ≤ f.tag) = true)
    (h : WrT E m k r c (PrS E sS k0 fs s) (fTail E fs s (i + 1) tl)) : WrT E m k r c (PrS E sS k0 fs s) (fTail E fs s i tl) := by
  intro a w base v bs hwk hv hown hb hpre hlim
  obtain ⟨d, hd⟩ := hpre.at_d hf
  have e : fEnc E f d = [] := by
    have := of_decide_eq_true ht
    unfold fEnc; rw [if_neg]; simp; omega
  rw [fTail_step hf hd, e, List.nil_append] at hlim ⊢
  exact h a w base v bs hwk hv hown hb hpre hlim
theorem wt_ret {r t : Nat} {pre : Act → World → Nat → Prop} (ht : (decide (t < E.N) && decide (r < E.N)) = true) : WrT E m k r (.seq (.region r0 #[⟨some t, .move (.tmp 1), y0, q0, e0, none⟩, ⟨some r, .assign (.tmp t), y1, q1, e1, none⟩] false) .ret) pre [] := by
  simp only [Bool.and_eq_true, decide_eq_true_eq] at ht
  intro a w base v bs hok hv hown hb hpre hlim
  have hN := hok.1
  refine wp_seq_k fun K hK => ?_
  refine zai ?_
  refine zal ?_
  rw [zac, hv]
  refine zak ?_
  rw [zac, zaa (by rw [hN]; exact ht.1)]
  refine zah (hK _ _ ?_)
  refine wp_ret ⟨by rw [zaj, zaj]; exact hok.2.1, ?_⟩
  rw [zaa (by rw [zae, hN]; exact ht.2), List.append_nil]
  exact App.refl hown
theorem wt_end {r sS k0 i : Nat} {fs : List Fld} {s : S} {c1 c2 : Code} (hl : decide (fs.length ≤ i) = true) (hsl : E.sl m k [] [sS] = true) (h1 : WrC E m k c1 (PrS E sS k0 fs s) (tagsEnc E fs s)) (h2 : WrT E m k r c2 (PrS E sS k0 fs s) []) :
    WrT E m k r (.seq c1 c2) (PrS E sS k0 fs s) (fTail E fs s i (tagsEnc E fs s)) := by
  rw [fTail_end (of_decide_eq_true hl)]
  obtain ⟨hE, _, hr, _⟩ := sl_out hsl
  have := wt_seq hE h1 h2 (PrS.stable (hr sS (by simp)))
  rwa [List.append_nil] at this
theorem wt_fin {r sS k0 i : Nat} {fs : List Fld} {s : S} {c2 : Code} (hl : decide (fs.length ≤ i) = true) (hx : E.flex = false) (h2 : WrT E m k r c2 (PrS E sS k0 fs s) []) :
    WrT E m k r c2 (PrS E sS k0 fs s) (fTail E fs s i (tagsEnc E fs s)) := by
  rw [fTail_end (of_decide_eq_true hl)]
  unfold tagsEnc; rw [hx]; exact h2
def AppendsTo (fn : FuncId) (fl : Bool) (flx : Int → Bool) (fs : List Fld) : Prop :=
  ∀ (s : S) (ver : Int) (B : Nat) (w : World) (base : Nat) (v : Value) (bs : Bs), 0 ≤ ver → (∃ cs T, Blk w B cs T ∧ cs[0]? = some (.int .i16 ver)) → At w (fun g => g < base) fl fs s B 1 → B < base → base ≤ w.heap.size →
    Own eB w base v bs → bs.length + (zay (flx ver) ver fs s).length ≤ LIM →
    zaD Tryd.prog fn #[.pointer (some ⟨B, 0, none⟩), v] w (App eB w base v (bs ++ zay (flx ver) ver fs s))
theorem app_flex {fn : FuncId} {func : Func} {N r sV sF t0 t1 t2 t3 t4 t5 t6 t7 T ty u : Nat} {i0 i1 : Nat} {vf : Int} {fs : List Fld} {c : Code}
    (hfn : (Tryd.prog).funcs[fn]? = some func)
    (hbody : func.body = some (.seq (.region r0 #[⟨some r, .assign (.const (.slice none i0 i1)), y0, q0, e0, none⟩] false) (.seq (.region r1 #[⟨some t0, .move (.tmp 0), y1, q1, e1, none⟩, ⟨some t1, .nilCheck (.tmp t0), y2, q2, e2, none⟩, ⟨some t2, .fieldAddr T (.tmp t1) 0, y3, q3, e3, none⟩, ⟨some t3, .load ty (.tmp t2), y4, q4, e4, none⟩, ⟨some sV, .assign (.tmp t3), y5, q5, e5, none⟩] false)
      (.seq (.region r2 #[⟨some t4, .move (.tmp sV), y6, q6, e6, none⟩] false) (.seq (.region r3 #[⟨some t5, .move (.tmp sV), y7, q7, e7, none⟩, ⟨some t6, .binOp .geq u (.tmp t5) (.const (.int .i16 vf)) u, y8, q8, e8, none⟩, ⟨some sF, .assign (.tmp t6), y9, q9, e9, none⟩] false) (.seq (.region r4 #[⟨some t7, .move (.tmp sF), y10, q10, e10, none⟩] false) c))))))
    (hres : func.results = #[.tmp r]) (hN : func.ntmps = N) (hF : (zaR Tryd.prog T 0 0 1 && scalB Tryd.prog ty && decide (2 ≤ N) && decide ((0 :: 1 :: [r, t0, t1, t2, t3, t4, t5, t6, t7, sV, sF]).Nodup) && [r, t0, t1, t2, t3, t4, t5, t6, t7, sV, sF].all (fun t => decide (t < N))) = true)
    (h : ∀ (ver : Int) (s : S), 0 ≤ ver → WrT ⟨N, t0, sV, sF, ver, decide (vf ≤ ver), true⟩ (sF + 1) t0 r c (PrS ⟨N, t0, sV, sF, ver, decide (vf ≤ ver), true⟩ 0 1 fs s) (partEnc ⟨N, t0, sV, sF, ver, decide (vf ≤ ver), true⟩ fs s)) :
    AppendsTo fn true (fun ver => decide (vf ≤ ver)) fs := by
  simp only [Bool.and_eq_true, decide_eq_true_eq, List.all_eq_true] at hF
  obtain ⟨⟨⟨⟨f1, f2⟩, f3⟩, hnd⟩, hlt⟩ := hF
  simp only [List.nodup_cons, List.mem_cons, List.not_mem_nil, or_false, not_or, List.nodup_nil, and_true, not_false_eq_true, forall_eq_or_imp, forall_eq] at hnd hlt
  intro s ver B w base v bs hver hb0 hat hB hbase hown hlim
  obtain ⟨cs, Tb, hblk, hc0⟩ := hb0
  refine zat hfn hbody hres hN (by simpa using f3) ?_
  intro a hN hD ha
  have h0 : get a 0 = .pointer (some ⟨B, 0, none⟩) := ha 0 _ rfl
  have h1 : get a 1 = v := ha 1 _ rfl
  have hfr : True := trivial
  refine wp_seq_k fun K hK => ?_
  refine zai ?_
  refine zak ?_
  refine zah (hK _ _ ?_)
  clear hK K
  refine wp_seq_k fun K hK => ?_
  refine zai ?_
  refine zal ?_
  simp only [zac, zaf, zaa, zab, zad, ne_eq, zae, hN, hnd, hlt, not_false_eq_true, h0]
  refine zaI (p := ⟨B, 0, none⟩) (by simp only [zac, zaf, zaa, zab, zad, ne_eq, zae, hN, hnd, hlt, not_false_eq_true, h0]) ?_
  refine zaE (b := B) (o := 0) f1 (by simp only [zac, zaf, zaa, zab, zad, ne_eq, zae, hN, hnd, hlt, not_false_eq_true, h0]) ?_
  refine wl_load (b := B) (o := 0 + 0) f2 (by simp only [zac, zaf, zaa, zab, zad, ne_eq, zae, hN, hnd, hlt, not_false_eq_true, h0]) hblk hc0 ?_
  refine zak ?_
  simp only [zac, zaf, zaa, zab, zad, ne_eq, zae, hN, hnd, hlt, not_false_eq_true, h0]
  refine zah (hK _ _ ?_)
  clear hK K
  refine wp_seq_k fun K hK => ?_
  refine zai ?_
  refine zal ?_
  simp only [zac, zaf, zaa, zab, zad, ne_eq, zae, hN, hnd, hlt, not_false_eq_true, h0]
  refine zah (hK _ _ ?_)
  clear hK K
  refine wp_seq_k fun K hK => ?_
  refine zai ?_
  refine zal ?_
  simp only [zac, zaf, zaa, zab, zad, ne_eq, zae, hN, hnd, hlt, not_false_eq_true, h0]
  refine wl_geq (by simp only [zac, zaf, zaa, zab, zad, ne_eq, zae, hN, hnd, hlt, not_false_eq_true, h0, sameK, decide_true]) ?_
  simp only [zac, zaf, zaa, zab, zad, ne_eq, zae, hN, hnd, hlt, not_false_eq_true, h0, cmp2]
  refine zak ?_
  simp only [zac, zaf, zaa, zab, zad, ne_eq, zae, hN, hnd, hlt, not_false_eq_true, h0]
  refine zah (hK _ _ ?_)
  clear hK K
  refine wp_seq_k fun K hK => ?_
  refine zai ?_
  refine zal ?_
  simp only [zac, zaf, zaa, zab, zad, ne_eq, zae, hN, hnd, hlt, not_false_eq_true, h0]
  refine zah (hK _ _ ?_)
  clear hK K
  have he : partEnc ⟨N, t0, sV, sF, ver, decide (vf ≤ ver), true⟩ fs s = zay (decide (vf ≤ ver)) ver fs s := partEnc_eq _ _ _
  rw [← he] at hlim ⊢
  refine h ver s hver _ w base v bs ⟨by simp only [zae, hN], by simp only [zaj, hD], ?_, fun _ => ?_⟩ ?_ hown hbase ⟨B, 0, ?_, ?_, hB⟩ hlim
  · simp only [zac, zaf, zaa, zab, zad, ne_eq, zae, hN, hnd, hlt, not_false_eq_true, h0]
  · simp only [zac, zaf, zaa, zab, zad, ne_eq, zae, hN, hnd, hlt, not_false_eq_true, h0]
  · simp only [zac, zaf, zaa, zab, zad, ne_eq, zae, hN, hnd, hlt, not_false_eq_true, h1]
  · simp only [zac, zaf, zaa, zab, zad, ne_eq, zae, hN, hnd, hlt, not_false_eq_true, h0]
  · exact hat
end
end Go.Proofs.YtojpodeljpfgaabDoor
namespace Go.Proofs.YtojpodeljpfgaabDoor
set_option linter.all false
open Go.RowKit
set_option maxRecDepth 10000
section
variable {E : WEnv} {m k : Nat} {y0 y1 y2 y3 y4 y5 y6 y7 y8 y9 y10 y11 y12 y13 y14 y15 y16 y17 y18 y19 y20 y21 y22 y23 y24 y25 y26 y27 y28 y29 y30 y31 y32 y33 y34 y35 y36 y37 y38 y39 : TypeId} {q0 q1 q2 q3 q4 q5 q6 q7 q8 q9 q10 q11 q12 q13 q14 q15 q16 q17 q18 q19 q20 q21 q22 q23 q24 q25 q26 q27 q28 q29 q30 q31 q32 q33 q34 q35 q36 q37 q38 q39 : String} {e0 e1 e2 e3 e4 e5 e6 e7 e8 e9 e10 e11 e12 e13 e14 e15 e16 e17 e18 e19 e20 e21 e22 e23 e24 e25 e26 e27 e28 e29 e30 e31 e32 e33 e34 e35 e36 e37 e38 e39 : Array Edge} {r0 r1 r2 r3 r4 r5 : Nat}
variable {a1 a2 a3 a4 a5 : Int} {of : K} {sub : List Fld} {d : D} {x t1 t2 t3 t4 : Nat} {us : Array TypeId}
theorem wr_lit {b : UInt8} {n8 : Int} {pre : Act → World → Nat → Prop} (hn : n8 = (b.toNat : Int)) (hE : E.safe m k) (hfr : ∀ d ∈ [1, t1, t2, t3], Fre E m k d) (hnd : [1, t1, t2, t3].Nodup) :
    WrC E m k (.region r0 #[⟨some t1, .move (.tmp 1), y0, q0, e0, none⟩, ⟨some t2, .buildSlice 22 1 #[(0, .const (.int .u8 n8))], y1, q1, e1, none⟩, ⟨some t3, .call { callee := .builtin .append, args := #[.tmp t1, .tmp t2], argTypes := #[22, 22] }, y2, q2, e2, none⟩, ⟨some 1, .assign (.tmp t3), y3, q3, e3, none⟩] false) pre [b] := by
  simp only [List.nodup_cons, List.mem_cons, List.not_mem_nil, or_false, not_or, List.nodup_nil, and_true, not_false_eq_true] at hnd; simp only [List.mem_cons, List.not_mem_nil, or_false, forall_eq_or_imp, forall_eq, Fre] at hfr
  intro a w base v bs hok hv hown hb hpre hlim
  have hN := hok.1
  subst hn
  refine zai ?_
  refine zal ?_
  rw [zac, hv]
  refine wl_appLit [b] (by simp [byteV, List.zipIdx, zaf]) rfl (by simp) (by simp only [zac, zaf, zag, zaa, zab, zad, ne_eq, zae, hN, hnd, hfr, not_false_eq_true]) (by simp only [zae, hN, hfr]) hown hlim hb ?_
  intro v' w' ha
  refine zak ?_
  simp only [zac, zaf, zag, zaa, zab, zad, ne_eq, zae, hN, hnd, hfr, not_false_eq_true]
  refine zah ⟨((((zam.refl _ _).put hfr.2.1.1 _).put hfr.2.2.1.1 _).put hfr.2.2.2.1 _).put hfr.1.1 _, ?_⟩
  rw [zaa (by simp only [zae, hN, hfr])]
  exact ha
theorem wf_ptr {sS k0 i T idx ty y u c1 c2 d1 d2 d3 g1 g2 g3 : Nat} {fs : List Fld} {s : S} {c : Code}
    (hf : fs[i]? = some (.mk .struct a1 a2 a3 a4 a5 of sub)) (hd : s.ds[i]? = some d) (hB : (decide (0 ≤ a3) && zaR Tryd.prog T idx (k0 + foff E.fl fs i) 1 && scalB Tryd.prog ty && ptrB Tryd.prog u) = true)
    (hsl : E.sl m k [t1, t2, t3, t4, y] [sS] = true) (hm : decide (m ≤ y + 1) = true) (hsl2 : E.sl (y + 1) k [c1, c2, d1, d2, d3, g1, g2, g3] [y] = true) (h : ∀ s' : S, WrC E (y + 1) k c (PrS E y 0 sub s') (partEnc E sub s')) :
    WrC E m k (.seq (.region r0 #[⟨some t1, .move (.tmp sS), y0, q0, e0, none⟩, ⟨some t2, .nilCheck (.tmp t1), y1, q1, e1, none⟩, ⟨some t3, .fieldAddr T (.tmp t2) idx, y2, q2, e2, none⟩, ⟨some t4, .load ty (.tmp t3), y3, q3, e3, none⟩, ⟨some y, .assign (.tmp t4), y4, q4, e4, none⟩] false)
      (.seq (.region r1 #[⟨some c1, .move (.tmp y), y5, q5, e5, none⟩, ⟨some c2, .binOp .eql u (.tmp c1) (.const (.pointer none)) u, y6, q6, e6, none⟩] false)
        (.cond (.tmp c2)
          (.region r2 #[⟨some d1, .move (.tmp 1), y7, q7, e7, none⟩, ⟨some d2, .buildSlice 22 1 #[(0, .const (.int .u8 255))], y8, q8, e8, none⟩, ⟨some d3, .call { callee := .builtin .append, args := #[.tmp d1, .tmp d2], argTypes := #[22, 22] }, y9, q9, e9, none⟩, ⟨some 1, .assign (.tmp d3), y10, q10, e10, none⟩] false)
          (.seq (.region r3 #[⟨some g1, .move (.tmp 1), y11, q11, e11, none⟩, ⟨some g2, .buildSlice 22 1 #[(0, .const (.int .u8 1))], y12, q12, e12, none⟩, ⟨some g3, .call { callee := .builtin .append, args := #[.tmp g1, .tmp g2], argTypes := #[22, 22] }, y13, q13, e13, none⟩, ⟨some 1, .assign (.tmp g3), y14, q14, e14, none⟩] false) c)))) (PrS E sS k0 fs s)
      (encF E.flex E.ver (.mk .struct a1 a2 a3 a4 a5 of sub) d) := by
  simp only [Bool.and_eq_true, decide_eq_true_eq] at hB
  obtain ⟨⟨⟨b1, b2⟩, b3⟩, b4⟩ := hB
  have hfs : fsz E.fl (.mk .struct a1 a2 a3 a4 a5 of sub) = 1 := by unfold fsz; dsimp only; rw [if_neg (by omega)]
  refine wf_load hf hd (by rw [hfs]; simp only [Bool.and_eq_true]; exact ⟨⟨rfl, b2⟩, b3⟩) hsl hm ?_
  obtain ⟨hE, hfr, hrd, hnd⟩ := sl_out hsl2
  have sd1 : [1, d1, d2, d3].Nodup := by
    simp only [List.nodup_cons, List.mem_cons, List.cons_append, List.nil_append, List.not_mem_nil, or_false, not_or, List.nodup_nil, and_true, not_false_eq_true] at hnd ⊢
    simp only [hnd, not_false_eq_true, and_self]
  have sd2 : [1, g1, g2, g3].Nodup := by
    simp only [List.nodup_cons, List.mem_cons, List.cons_append, List.nil_append, List.not_mem_nil, or_false, not_or, List.nodup_nil, and_true, not_false_eq_true] at hnd ⊢
    simp only [hnd, not_false_eq_true, and_self]
  have sf1 : ∀ d ∈ [1, d1, d2, d3], Fre E (y + 1) k d := fun d hd => hfr d (by simp only [List.mem_cons, List.not_mem_nil, or_false] at hd ⊢; rcases hd with h | h | h | h <;> simp [h])
  have sf2 : ∀ d ∈ [1, g1, g2, g3], Fre E (y + 1) k d := fun d hd => hfr d (by simp only [List.mem_cons, List.not_mem_nil, or_false] at hd ⊢; rcases hd with h | h | h | h <;> simp [h])
  simp only [List.nodup_cons, List.mem_cons, List.mem_append, List.cons_append, List.nil_append, List.not_mem_nil, or_false, not_or, List.nodup_nil, and_true, not_false_eq_true] at hnd
  simp only [List.mem_cons, List.not_mem_nil, or_false, forall_eq_or_imp, forall_eq, Fre] at hfr
  have hyW := hrd y (by simp)
  intro a w base v bs hok hv hown hb hpre hlim
  have hN := hok.1
  obtain ⟨val, gy, hr⟩ := hpre
  unfold RepF at hr
  dsimp only at hr
  rw [if_neg (by omega)] at hr
  refine wp_seq_k fun K hK => ?_
  refine zai ?_
  refine zal ?_
  rw [zac, gy]
  have kk : ∀ v2, zam (WS (y + 1) E.T k) a ((a.put (some c1) val).put (some c2) v2) := fun v2 => ((zam.refl _ _).put hfr.2.1.1 _).put hfr.2.2.1.1 _
  split at hr
  · have hv0 : val = .pointer none := by simpa using hr
    subst hv0
    refine wl_eqlNil b4 (by simp only [zac, zaf, zag, zaa, zab, zad, ne_eq, zae, hN, hnd, hfr, not_false_eq_true]; rfl) ?_
    simp only [zac, zaf, zag, zaa, zab, zad, ne_eq, zae, hN, hnd, hfr, not_false_eq_true, isNilV]
    refine zah (hK _ _ ?_)
    refine wp_cond_true (by simp only [zac, zaf, zag, zaa, zab, zad, ne_eq, zae, hN, hnd, hfr, not_false_eq_true]; rfl) ?_
    have e : encF E.flex E.ver (.mk .struct a1 a2 a3 a4 a5 of sub) .pnil = [255] := by
      unfold encF; dsimp only; rw [if_neg (by omega)]
    rw [e] at hlim ⊢
    exact wr_go (pre := fun _ _ _ => True) (Nat.le_refl _) (Nat.le_refl _) hE (wr_lit rfl hE sf1 sd1) hok hv hown hb hlim (kk _) (by simp only [zac, zaf, zag, zaa, zab, zad, ne_eq, zae, hN, hnd, hfr, not_false_eq_true]) trivial
  · rename_i x
    obtain ⟨s', rfl, b, cs, T', hv0, gb, hblk, v1, v2, e1, e2, e3⟩ := hr
    have hv1 : val = .pointer (some ⟨b, 0, none⟩) := by simpa using hv0
    subst hv1
    refine wl_eqlNil b4 (by simp only [zac, zaf, zag, zaa, zab, zad, ne_eq, zae, hN, hnd, hfr, not_false_eq_true]; rfl) ?_
    simp only [zac, zaf, zag, zaa, zab, zad, ne_eq, zae, hN, hnd, hfr, not_false_eq_true, isNilV]
    refine zah (hK _ _ ?_)
    refine wp_cond_false (by simp only [zac, zaf, zag, zaa, zab, zad, ne_eq, zae, hN, hnd, hfr, not_false_eq_true]; rfl) ?_
    have e : encF E.flex E.ver (.mk .struct a1 a2 a3 a4 a5 of sub) (.ptr s'.d) = [1] ++ partEnc E sub s' := by
      rw [partEnc_eq]
      unfold encF
      dsimp only
      rw [if_neg (by omega)]
      rfl
    rw [e] at hlim ⊢
    have hps : PrS E y 0 sub s' ((a.put (some c1) (.pointer (some ⟨b, 0, none⟩))).put (some c2) (.bool (Option.isNone (some (⟨b, 0, none⟩ : Addr))))) w base := by
      refine ⟨b, 0, by rw [(kk _).slot y hyW]; exact gy, ⟨cs, T', hblk, ?_, v1, v2, ?_, e2, e3⟩, gb⟩
      · have := e2.len.1; have := e3.len; rw [e1, List.length_append]; unfold ssz; omega
      · rw [Nat.add_zero, List.drop_zero, List.take_of_length_le (by have := e2.len.1; have := e3.len; rw [e1, List.length_append]; unfold ssz; omega)]
        exact e1
    exact wr_go (Nat.le_refl _) (Nat.le_refl _) hE (wr_seq hE (wr_lit (pre := PrS E y 0 sub s') rfl hE sf2 sd2) (h s') (fun _ _ _ h => h) (PrS.stable hyW)) hok hv hown hb hlim (kk _) (by simp only [zac, zaf, zag, zaa, zab, zad, ne_eq, zae, hN, hnd, hfr, not_false_eq_true]) hps
  · exact hr.elim
end
end Go.Proofs.YtojpodeljpfgaabDoor
