import Derived.Test.YtkhmglikdlgfpaaKbinC
import Derived.Test.YtkhmglikdlgfpaaMem
/-
Pieces of the package's AppendTo functions: each writes what a field says behind what stands there.
-/
namespace Go.Proofs.Ytkhmglikdlgfpaa
set_option linter.all false
open Go.RowKit
set_option maxRecDepth 10000

/-- What a walk through AppendTo knows: the frame's size, its first temporary slot, the slots of the version and of isFlexible, and what they hold. -/
structure WEnv where
  N : Nat
  T : Nat
  sV : Nat
  sF : Nat
  ver : Int
  flex : Bool
  fl : Bool

/-- The slots that stay. -/
def WS (m T k : Nat) (t : Nat) : Prop := (t < m ∧ t ≠ 1) ∨ (T ≤ t ∧ t < k)
instance (m T k t : Nat) : Decidable (WS m T k t) := inferInstanceAs (Decidable (_ ∨ _))
/-- A slot that may be written. -/
def Fre (E : WEnv) (m k d : Nat) : Prop := ¬ WS m E.T k d ∧ d < E.N
instance (E : WEnv) (m k d : Nat) : Decidable (Fre E m k d) := inferInstanceAs (Decidable (_ ∧ _))

theorem WS.mono {m m' T k k' t : Nat} (h : m ≤ m') (h2 : k ≤ k') (hs : WS m T k t) : WS m' T k' t := by
  unfold WS at *; omega

def WOK (E : WEnv) (a : Act) : Prop := a.tmps.size = E.N ∧ a.defers = [] ∧ get a E.sV = .int .i16 E.ver ∧ (E.fl = true → get a E.sF = .bool E.flex)

theorem WOK.keep {E : WEnv} {S : Nat → Prop} {a a' : Act} (h : WOK E a) (k : Keeps S a a') (hv : S E.sV) (hf : E.fl = true → S E.sF) : WOK E a' :=
  ⟨k.size.trans h.1, k.defers.trans h.2.1, (k.slot _ hv).trans h.2.2.1, fun e => (k.slot _ (hf e)).trans (h.2.2.2 e)⟩

/-- The env's own slots stay. -/
def WEnv.safe (E : WEnv) (m k : Nat) : Prop := WS m E.T k E.sV ∧ (E.fl = true → WS m E.T k E.sF)
instance (E : WEnv) (m k : Nat) : Decidable (E.safe m k) := inferInstanceAs (Decidable (_ ∧ _))

def WQ (S : Nat → Prop) (a : Act) (w : World) (base : Nat) (v : Value) (bs : Bs) : Exit → Act → World → Prop
  | .normal, a', w' => Keeps S a a' ∧ App eB w base v bs (get a' 1) w'
  | _, _, _ => False

/-- Code that writes the octets enc. -/
def WrC (E : WEnv) (m k : Nat) (c : Code) (pre : Act → World → Nat → Prop) (enc : Bs) : Prop :=
  ∀ (a : Act) (w : World) (base : Nat) (v : Value) (bs : Bs), WOK E a → get a 1 = v → Own eB w base v bs → base ≤ w.heap.size → pre a w base → bs.length + enc.length ≤ LIM →
    c.wp Try.prog (WQ (WS m E.T k) a w base v (bs ++ enc)) a w

theorem App.refl {w : World} {base : Nat} {v : Value} {bs : Bs} (h : Own eB w base v bs) : App eB w base v bs v w := ⟨h, Chg.refl _ _, .inl rfl⟩

/-- What is known stays known while the call's own buffer grows. -/
def Stable (E : WEnv) (m k : Nat) (pre pre' : Act → World → Nat → Prop) : Prop :=
  ∀ a w base a' w', pre a w base → Keeps (WS m E.T k) a a' → Chg (fun n => base ≤ n) w w' → base ≤ w.heap.size → pre' a' w' base

theorem wr_seq {E : WEnv} {m k : Nat} {c1 c2 : Code} {pre pre1 pre2 : Act → World → Nat → Prop} {enc1 enc2 : Bs} (hE : E.safe m k)
    (h1 : WrC E m k c1 pre1 enc1) (h2 : WrC E m k c2 pre2 enc2) (hp : ∀ a w base, pre a w base → pre1 a w base) (hs : Stable E m k pre pre2) : WrC E m k (.seq c1 c2) pre (enc1 ++ enc2) := by
  intro a w base v bs hok hv hown hb hpre hlim
  rw [List.length_append] at hlim
  refine wp_seq (wp_mono (h1 a w base v bs hok hv hown hb (hp _ _ _ hpre) (by omega)) ?_)
  intro e a1 w1 hq
  cases e <;> try exact hq.elim
  obtain ⟨hk, happ⟩ := hq
  have hc := happ.chgFrom hown
  refine wp_mono (h2 a1 w1 base _ _ (hok.keep hk hE.1 hE.2) rfl happ.own (Nat.le_trans hb hc.size) (hs _ _ _ _ _ hpre hk hc hb) (by rw [List.length_append]; omega)) ?_
  intro e a2 w2 hq
  cases e <;> try exact hq.elim
  obtain ⟨hk2, happ2⟩ := hq
  refine ⟨hk.trans hk2, ?_⟩
  rw [← List.append_assoc]
  exact happ.trans happ2

theorem wr_skip {E : WEnv} {m k : Nat} {pre : Act → World → Nat → Prop} : WrC E m k .skip pre [] := by
  intro a w base v bs hok hv hown hb hpre hlim
  refine wp_skip ⟨Keeps.refl _ _, ?_⟩
  rw [hv, List.append_nil]
  exact App.refl hown

theorem wr_pre {E : WEnv} {m k : Nat} {c : Code} {pre pre' : Act → World → Nat → Prop} {enc : Bs} (h : WrC E m k c pre enc) (hp : ∀ a w base, pre' a w base → pre a w base) : WrC E m k c pre' enc :=
  fun a w base v bs hok hv hown hb hpre hlim => h a w base v bs hok hv hown hb (hp _ _ _ hpre) hlim
theorem wr_mono {E : WEnv} {m k m' k' : Nat} {c : Code} {pre : Act → World → Nat → Prop} {enc : Bs} (hm : m ≤ m') (hk : k ≤ k') (h : WrC E m' k' c pre enc) : WrC E m k c pre enc :=
  fun a w base v bs hok hv hown hb hpre hlim => wp_mono (h a w base v bs hok hv hown hb hpre hlim) fun e a' w' hq => by
    cases e <;> first | exact hq.elim | exact ⟨hq.1.mono fun t ht => ht.mono hm hk, hq.2⟩

section
variable {E : WEnv} {m k : Nat} {y0 y1 y2 y3 y4 y5 y6 y7 y8 y9 : TypeId} {q0 q1 q2 q3 q4 q5 q6 q7 q8 q9 : String} {e0 e1 e2 e3 e4 e5 e6 e7 e8 e9 : Array Edge} {r0 r1 r2 r3 r4 : Nat}

/-- A walk goes on with another frame. -/
theorem wr_go {c : Code} {pre : Act → World → Nat → Prop} {enc : Bs} {m' k' : Nat} (hm : m ≤ m') (hk : k ≤ k') (hE : E.safe m k) (h : WrC E m' k' c pre enc) {a a1 : Act} {w : World} {base : Nat} {v : Value} {bs : Bs}
    (hok : WOK E a) (hv : get a 1 = v) (hown : Own eB w base v bs) (hb : base ≤ w.heap.size) (hlim : bs.length + enc.length ≤ LIM)
    (hkp : Keeps (WS m E.T k) a a1) (h1 : get a1 1 = get a 1) (hpre : pre a1 w base) : c.wp Try.prog (WQ (WS m E.T k) a w base v (bs ++ enc)) a1 w := by
  refine wp_mono (h a1 w base v bs (hok.keep hkp hE.1 hE.2) (h1.trans hv) hown hb hpre hlim) ?_
  intro e a2 w2 hq
  cases e <;> first | exact hq.elim | exact ⟨hkp.trans (hq.1.mono fun t ht => ht.mono hm hk), hq.2⟩

/-! ### The field of the part at a slot -/

/-- The part lies where slot s points. -/
def PrS (E : WEnv) (sS k0 : Nat) (fs : List Fld) (s : S) (a : Act) (w : World) (base : Nat) : Prop :=
  ∃ B p, get a sS = .pointer (some ⟨B, p, none⟩) ∧ At w (fun g => g < base) E.fl fs s B (p + k0) ∧ B < base

theorem PrS.stable {sS k0 : Nat} {fs : List Fld} {s : S} (h : WS m E.T k sS) : Stable E m k (PrS E sS k0 fs s) (PrS E sS k0 fs s) := by
  rintro a w base a' w' ⟨B, p, h1, h2, h3⟩ hk hc hb
  exact ⟨B, p, (hk.slot _ h).trans h1, h2.stay (Stay.of hc fun n hn _ => by omega) (hc.block B (by omega) (by omega)), h3⟩

/-- What slot x holds says d. -/
def PrF (E : WEnv) (x : Nat) (f : Fld) (d : D) (a : Act) (w : World) (base : Nat) : Prop :=
  ∃ val, get a x = val ∧ RepF w (fun g => g < base) E.fl f d [val]

theorem seg1 {l : List Value} {o : Nat} (h : o + 1 ≤ l.length) : ∃ v, l[o]? = some v ∧ (l.drop o).take 1 = [v] := by
  have ho : o < l.length := by omega
  refine ⟨l[o], by simp [ho], ?_⟩
  rw [List.drop_eq_getElem_cons ho, List.take_succ_cons, List.take_zero]

/-- v := s.F, then what writes v. -/
theorem wr_field {sS k0 i T idx ty x t1 t2 t3 t4 m' k' off n : Nat} {fs : List Fld} {s : S} {f : Fld} {d : D} {c : Code} {enc : Bs}
    (hf : fs[i]? = some f) (hd : s.ds[i]? = some d) (h1 : fsz E.fl f = 1) (hF : fieldB Try.prog T idx off n = true) (ho : off = k0 + foff E.fl fs i) (hty : scalB Try.prog ty = true)
    (hsl : E.safe m k ∧ m ≤ m' ∧ k ≤ k' ∧ Fre E m k t1 ∧ Fre E m k t2 ∧ Fre E m k t3 ∧ Fre E m k t4 ∧ Fre E m k x ∧ t1 ≠ 1 ∧ t2 ≠ 1 ∧ t3 ≠ 1 ∧ t4 ≠ 1 ∧ x ≠ 1)
    (h : WrC E m' k' c (PrF E x f d) enc) :
    WrC E m k (.seq (.region r0 #[⟨some t1, .move (.tmp sS), y0, q0, e0, none⟩, ⟨some t2, .nilCheck (.tmp t1), y1, q1, e1, none⟩, ⟨some t3, .fieldAddr T (.tmp t2) idx, y2, q2, e2, none⟩, ⟨some t4, .load ty (.tmp t3), y3, q3, e3, none⟩, ⟨some x, .assign (.tmp t4), y4, q4, e4, none⟩] false) c) (PrS E sS k0 fs s) enc := by
  obtain ⟨hE, hm, hk, f1, f2, f3, f4, fx, n1, n2, n3, n4, nx⟩ := hsl
  intro a w base v bs hok hv hown hb hpre hlim
  obtain ⟨B, p, g1, hat, hB⟩ := hpre
  obtain ⟨d', cs, Tb, k1, k2, k3, k4⟩ := hat.field hf
  rw [hd] at k1; cases k1
  rw [h1] at k3 k4
  obtain ⟨val, hval, hseg⟩ := seg1 (by omega : (p + k0 + foff E.fl fs i) + 1 ≤ cs.length)
  rw [hseg] at k4
  refine wp_seq_k fun K hK => ?_
  refine wp_reg ?_
  refine wl_move ?_
  rw [eval_tmp, g1]
  refine wl_nilCheck (p := ⟨B, p, none⟩) (by rw [eval_tmp, get_put_self (by rw [hok.1]; exact f1.2)]) ?_
  refine wl_fieldAddr (b := B) (o := p) hF (by rw [eval_tmp, get_put_self (by rw [size_put, hok.1]; exact f2.2)]) ?_
  refine wl_load hty (by rw [eval_tmp, get_put_self (by rw [size_put, size_put, hok.1]; exact f3.2)]) k2 (v := val) (by rw [ho, ← Nat.add_assoc]; exact hval) ?_
  refine wl_assign ?_
  rw [eval_tmp, get_put_self (by rw [size_put, size_put, size_put, hok.1]; exact f4.2)]
  refine wl_nil (hK _ _ ?_)
  refine wr_go hm hk hE h hok hv hown hb hlim (((((Keeps.refl _ _).put f1.1 _).put f2.1 _).put f3.1 _).put f4.1 _ |>.put fx.1 _) ?_ ⟨val, get_put_self (by simp only [size_put, hok.1]; exact fx.2), k4⟩
  rw [get_put_ne nx, get_put_ne n4, get_put_ne n3, get_put_ne n2, get_put_ne n1]

/-- dst = f(dst, v). -/
theorem wv_call {x t1 t2 t3 : Nat} {f : Fld} {d : D} {enc : Bs} {fn : FuncId} {ts : Array TypeId} (hen : Enters Try.prog fn)
    (hc : ∀ w base val, RepF w (fun g => g < base) E.fl f d [val] → ∃ pr, AppC fn [val] enc pr ∧ pr w)
    (hsl : Fre E m k t1 ∧ Fre E m k t2 ∧ Fre E m k t3 ∧ t1 ≠ 1 ∧ t1 ≠ t2 ∧ t1 ≠ x ∧ ¬ WS m E.T k 1 ∧ 1 < E.N) :
    WrC E m k (.region r0 #[⟨some t1, .move (.tmp 1), y0, q0, e0, none⟩, ⟨some t2, .move (.tmp x), y1, q1, e1, none⟩, ⟨some t3, .call { callee := .value (.func fn), args := #[.tmp t1, .tmp t2], argTypes := ts }, y2, q2, e2, none⟩, ⟨some 1, .assign (.tmp t3), y3, q3, e3, none⟩] false) (PrF E x f d) enc := by
  obtain ⟨f1, f2, f3, n1, n12, n1x, hw1, hN1⟩ := hsl
  intro a w base v bs hok hv hown hb hpre hlim
  obtain ⟨val, g1, hr⟩ := hpre
  obtain ⟨pr, happ, hpr⟩ := hc w base val hr
  refine wp_reg ?_
  refine wl_move ?_
  refine wl_move ?_
  rw [eval_tmp, eval_tmp, hv, get_put_ne n1x, g1]
  refine wl_callApp hen happ ?_ hown hlim hb hpr ?_
  · simp only [List.map_toArray, List.map_cons, List.map_nil, eval_tmp]
    rw [get_put_self (by rw [size_put, hok.1]; exact f2.2), get_put_ne (Ne.symm n12), get_put_self (by rw [hok.1]; exact f1.2)]
  intro v' w' ha
  refine wl_assign ?_
  rw [eval_tmp, get_put_self (by simp only [size_put, hok.1]; exact f3.2)]
  refine wl_nil ⟨((((Keeps.refl _ _).put f1.1 _).put f2.1 _).put f3.1 _).put hw1 _, ?_⟩
  rw [get_put_self (by simp only [size_put, hok.1]; exact hN1)]
  exact ha

/-- if isFlexible { .. } else { .. } -/
theorem wv_flex {t : Nat} {ca cb : Code} {pre : Act → World → Nat → Prop} {enc : Bs} (hfl : E.fl = true)
    (ha : E.flex = true → WrC E m k ca pre enc) (hb' : E.flex = false → WrC E m k cb pre enc) (hp : ∀ a w base v, pre a w base → pre (a.put (some t) v) w base)
    (hsl : E.safe m k ∧ Fre E m k t ∧ t ≠ 1) :
    WrC E m k (.seq (.region r0 #[⟨some t, .move (.tmp E.sF), y0, q0, e0, none⟩] false) (.cond (.tmp t) ca cb)) pre enc := by
  obtain ⟨hE, f1, n1⟩ := hsl
  intro a w base v bs hok hv hown hb hpre hlim
  refine wp_seq_k fun K hK => ?_
  refine wp_reg ?_
  refine wl_move ?_
  rw [eval_tmp, hok.2.2.2 hfl]
  refine wl_nil (hK _ _ ?_)
  have hkp : Keeps (WS m E.T k) a (a.put (some t) (.bool E.flex)) := (Keeps.refl _ _).put f1.1 _
  have hev : (a.put (some t) (.bool E.flex)).eval (.tmp t) = .bool E.flex := by rw [eval_tmp, get_put_self (by rw [hok.1]; exact f1.2)]
  cases hx : E.flex with
  | true =>
    rw [hx] at hev hkp
    exact wp_cond_true hev (wr_go (Nat.le_refl _) (Nat.le_refl _) hE (ha hx) hok hv hown hb hlim hkp (get_put_ne n1) (hp _ _ _ _ hpre))
  | false =>
    rw [hx] at hev hkp
    exact wp_cond_false hev (wr_go (Nat.le_refl _) (Nat.le_refl _) hE (hb' hx) hok hv hown hb hlim hkp (get_put_ne n1) (hp _ _ _ _ hpre))

theorem PrF.put {x : Nat} {f : Fld} {d : D} {t : Nat} (h : t ≠ x) : ∀ a w base v, PrF E x f d a w base → PrF E x f d (a.put (some t) v) w base := by
  rintro a w base v ⟨val, h1, h2⟩
  exact ⟨val, (get_put_ne h).trans h1, h2⟩
theorem PrS.put {sS k0 : Nat} {fs : List Fld} {s : S} {t : Nat} (h : t ≠ sS) : ∀ a w base v, PrS E sS k0 fs s a w base → PrS E sS k0 fs s (a.put (some t) v) w base := by
  rintro a w base v ⟨B, p, h1, h2⟩
  exact ⟨B, p, (get_put_ne h).trans h1, h2⟩

/-- if version >= n { .. } -/
theorem wr_ifver {t1 t2 : Nat} {u : Nat} {c : Code} {n : Int} {pre : Act → World → Nat → Prop} {enc : Bs}
    (h : n ≤ E.ver → WrC E m k c pre enc) (hp : ∀ a w base v, pre a w base → pre (a.put (some t1) v) w base) (hp2 : ∀ a w base v, pre a w base → pre (a.put (some t2) v) w base)
    (hsl : E.safe m k ∧ Fre E m k t1 ∧ Fre E m k t2 ∧ t1 ≠ 1 ∧ t2 ≠ 1) :
    WrC E m k (.seq (.region r0 #[⟨some t1, .move (.tmp E.sV), y0, q0, e0, none⟩, ⟨some t2, .binOp .geq u (.tmp t1) (.const (.int .i16 n)) u, y1, q1, e1, none⟩] false) (.cond (.tmp t2) c .skip)) pre (if n ≤ E.ver then enc else []) := by
  obtain ⟨hE, f1, f2, n1, n2⟩ := hsl
  intro a w base v bs hok hv hown hb hpre hlim
  refine wp_seq_k fun K hK => ?_
  refine wp_reg ?_
  refine wl_move ?_
  rw [eval_tmp, hok.2.2.1]
  have hx : (a.put (some t1) (.int .i16 E.ver)).eval (.tmp t1) = .int .i16 E.ver := by rw [eval_tmp, get_put_self (by rw [hok.1]; exact f1.2)]
  refine wl_geq (by rw [hx]; rfl) ?_
  rw [hx]
  simp only [eval_const, cmp2]
  refine wl_nil (hK _ _ ?_)
  have hkp : Keeps (WS m E.T k) a ((a.put (some t1) (.int .i16 E.ver)).put (some t2) (.bool (decide (n ≤ E.ver)))) := ((Keeps.refl _ _).put f1.1 _).put f2.1 _
  have hev : ((a.put (some t1) (.int .i16 E.ver)).put (some t2) (.bool (decide (n ≤ E.ver)))).eval (.tmp t2) = .bool (decide (n ≤ E.ver)) := by rw [eval_tmp, get_put_self (by rw [size_put, hok.1]; exact f2.2)]
  by_cases hc : n ≤ E.ver
  · rw [if_pos hc] at hlim ⊢
    rw [decide_eq_true hc] at hev hkp ⊢
    exact wp_cond_true hev (wr_go (Nat.le_refl _) (Nat.le_refl _) hE (h hc) hok hv hown hb hlim hkp ((get_put_ne n2).trans (get_put_ne n1)) (hp2 _ _ _ _ (hp _ _ _ _ hpre)))
  · rw [if_neg hc] at hlim ⊢
    rw [decide_eq_false hc] at hev hkp ⊢
    exact wp_cond_false hev (wr_go (Nat.le_refl _) (Nat.le_refl _) hE wr_skip hok hv hown hb hlim hkp ((get_put_ne n2).trans (get_put_ne n1)) (hp2 _ _ _ _ (hp _ _ _ _ hpre)))

end
end Go.Proofs.Ytkhmglikdlgfpaa
