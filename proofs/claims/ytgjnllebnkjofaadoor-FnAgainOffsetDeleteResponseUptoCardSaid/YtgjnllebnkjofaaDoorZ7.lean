import Derived.Test.YtgjnllebnkjofaaDoorZ1
import Derived.Test.YtgjnllebnkjofaaDoorZ2
import Derived.Test.YtgjnllebnkjofaaDoorZ3
import Derived.Test.YtgjnllebnkjofaaDoorZ5
import Derived.Test.YtgjnllebnkjofaaDoorZ6
/-
What the laws' proofs rest on, part 7.
-/
namespace Go.Proofs.YtgjnllebnkjofaaDoor
set_option linter.all false
open Go.RowKit
set_option maxRecDepth 10000
set_option maxHeartbeats 1000000
section
variable {y0 y1 y2 y3 y4 y5 y6 y7 y8 y9 y10 y11 y12 y13 y14 y15 y16 y17 y18 y19 y20 y21 y22 y23 y24 y25 y26 y27 y28 y29 y30 y31 y32 y33 y34 y35 y36 y37 y38 y39 : TypeId} {q0 q1 q2 q3 q4 q5 q6 q7 q8 q9 q10 q11 q12 q13 q14 q15 q16 q17 q18 q19 q20 q21 q22 q23 q24 q25 q26 q27 q28 q29 q30 q31 q32 q33 q34 q35 q36 q37 q38 q39 : String} {e0 e1 e2 e3 e4 e5 e6 e7 e8 e9 e10 e11 e12 e13 e14 e15 e16 e17 e18 e19 e20 e21 e22 e23 e24 e25 e26 e27 e28 e29 e30 e31 e32 e33 e34 e35 e36 e37 e38 e39 : Array Edge} {r0 r1 r2 r3 r4 r5 : Nat}
variable {us : Array TypeId}
theorem readfrom_c {fn fr : FuncId} {func : Func} (hfn : (Tryd.prog).funcs[fn]? = some func)
    (hbody : func.body = some (.seq (.region r0 #[⟨some 4, .assign (.const .nilIface), y0, q0, e0, none⟩] false) (.seq (.region r1 #[⟨some 5, .move (.tmp 0), y1, q1, e1, none⟩, ⟨some 6, .move (.tmp 1), y2, q2, e2, none⟩, ⟨some 7, .call { callee := .value (.func fr), args := #[.tmp 5, .tmp 6, .const (.bool false)], argTypes := us }, y3, q3, e3, none⟩, ⟨some 4, .assign (.tmp 7), y4, q4, e4, none⟩] false) .ret)))
    (hres : func.results = #[.tmp 4]) (hNf : func.ntmps = 8) (hen : Enters Tryd.prog fr) {x y : Value} {w : World} {R : Value → World → Prop} (h : CallsR Tryd.prog fr #[x, y, .bool false] w R) : CallsR Tryd.prog fn #[x, y] w R := by
  refine callsR_of hfn hbody hres hNf (by simp) ?_
  intro a hN hD ha
  have h0 : get a 0 = x := ha 0 _ rfl
  have h1 : get a 1 = y := ha 1 _ rfl
  refine wp_seq_k fun K hK => ?_; refine wp_reg ?_; (repeat ((with_reducible refine wl_p ?_ ?_ ?_); (· simp [evb, pvb, rnb, kb, hN, dyb, sdb] <;> omega); (· kernel_rfl); try simp only [evb, pvb, rnb, kb, hN, Nat.reduceLT, Nat.reduceEqDiff, reduceIte, Int.reduceToNat, Int.reduceBEq, Nat.reduceAdd])); refine wl_nil ?_; refine hK _ _ ?_; clear hK K
  refine wp_seq_k fun K hK => ?_; refine wp_reg ?_; (repeat ((with_reducible refine wl_p ?_ ?_ ?_); (· simp [evb, pvb, rnb, kb, hN, h0, h1, dyb, sdb] <;> omega); (· kernel_rfl); try simp only [evb, pvb, rnb, kb, hN, Nat.reduceLT, Nat.reduceEqDiff, reduceIte, Int.reduceToNat, Int.reduceBEq, Nat.reduceAdd, h0, h1]))
  refine wl_call hen (by simp only [List.map_toArray, List.map_cons, List.map_nil, evb, hN, Nat.reduceLT, Nat.reduceEqDiff, reduceIte]; exact h) ?_
  intro v w1 hr
  (repeat ((with_reducible refine wl_p ?_ ?_ ?_); (· simp [evb, pvb, rnb, kb, hN, dyb, sdb] <;> omega); (· kernel_rfl); try simp only [evb, pvb, rnb, kb, hN, Nat.reduceLT, Nat.reduceEqDiff, reduceIte, Int.reduceToNat, Int.reduceBEq, Nat.reduceAdd])); refine wl_nil ?_; refine hK _ _ ?_; clear hK K
  refine wp_ret ⟨by simp [defers_put, hD], ?_⟩
  have e : ∀ {b : Value}, b = v → R b w1 := fun e => by rw [e]; exact hr
  exact e (by simp only [evb, pvb, rnb, kb, hN, Nat.reduceLT, Nat.reduceEqDiff, reduceIte, Int.reduceToNat, Int.reduceBEq, Nat.reduceAdd])
end
end Go.Proofs.YtgjnllebnkjofaaDoor
namespace Go.Proofs.YtgjnllebnkjofaaDoor
set_option linter.all false
open Go.RowKit
section
variable {P : Program} {ops : Array Oper} {Q : Exit → Act → World → Prop} {a : Act} {w : World} {rest : List Oper} {d : Option Nat} {ty : TypeId} {pos : String} {af : Array Edge} {x : Operand} {t u : TypeId}
def ifaceB (P : Program) (t : Nat) : Bool := match P.underlying t with | some (.interface _) => true | _ => false
theorem ifaceB_out {t : Nat} (h : ifaceB P t = true) : ∃ ms, P.underlying t = some (.interface ms) := by
  unfold ifaceB at h
  split at h
  · rename_i ms hm; exact ⟨ms, hm⟩
  · cases h
theorem eq_nil0 (n : Nat) (t : TypeId) (w : World) (ht : ifaceB P t = true) : (Op.equalIn (n + 1) t .nilIface .nilIface).run P w = .ok true w := by
  obtain ⟨ms, hm⟩ := ifaceB_out ht
  simp [Op.equalIn, underlying, hm]
theorem eq_nil1 (n : Nat) (t ti : TypeId) (v : Value) (w : World) (ht : ifaceB P t = true) : (Op.equalIn (n + 1) t (.iface ti v) .nilIface).run P w = .ok false w := by
  obtain ⟨ms, hm⟩ := ifaceB_out ht
  simp [Op.equalIn, underlying, hm]
theorem depth_succ : ∃ n, Op.maxDepth = n + 1 := ⟨9999, rfl⟩
theorem wl_neqNil0 (ht : ifaceB P t = true) (hx : a.eval x = .nilIface) (h : WL P ops Q rest (a.put d (.bool false)) w) : WL P ops Q (⟨d, .binOp .neq t x (.const .nilIface) u, ty, pos, af, none⟩ :: rest) a w := by
  refine wl_val rfl (v := .bool false) (w' := w) ?_ h
  obtain ⟨n, hn⟩ := depth_succ
  simp [execOp, eqGuard, binOp, hx, eval_const, Op.equal, hn, eq_nil0 n t w ht]
theorem wl_neqNil1 {ti : TypeId} {v : Value} (ht : ifaceB P t = true) (hx : a.eval x = .iface ti v) (h : WL P ops Q rest (a.put d (.bool true)) w) : WL P ops Q (⟨d, .binOp .neq t x (.const .nilIface) u, ty, pos, af, none⟩ :: rest) a w := by
  refine wl_val rfl (v := .bool true) (w' := w) ?_ h
  obtain ⟨n, hn⟩ := depth_succ
  simp [execOp, eqGuard, binOp, hx, eval_const, Op.equal, hn, eq_nil1 n t ti v w ht]
end
end Go.Proofs.YtgjnllebnkjofaaDoor
namespace Go.Proofs.YtgjnllebnkjofaaDoor
set_option linter.all false
open Go.RowKit
set_option maxRecDepth 10000
structure WEnv where
  N : Nat
  T : Nat
  sV : Nat
  sF : Nat
  ver : Int
  flex : Bool
  fl : Bool
def WS (m T k : Nat) (t : Nat) : Prop := (t < m ∧ t ≠ 1) ∨ (T ≤ t ∧ t < k)
instance (m T k t : Nat) : Decidable (WS m T k t) := inferInstanceAs (Decidable (_ ∨ _))
def Fre (E : WEnv) (m k d : Nat) : Prop := ¬ WS m E.T k d ∧ d < E.N
instance (E : WEnv) (m k d : Nat) : Decidable (Fre E m k d) := inferInstanceAs (Decidable (_ ∧ _))
theorem WS.mono {m m' T k k' t : Nat} (h : m ≤ m') (h2 : k ≤ k') (hs : WS m T k t) : WS m' T k' t := by
  unfold WS at *; omega
def WOK (E : WEnv) (a : Act) : Prop := a.tmps.size = E.N ∧ a.defers = [] ∧ get a E.sV = .int .i16 E.ver ∧ (E.fl = true → get a E.sF = .bool E.flex)
theorem WOK.keep {E : WEnv} {S : Nat → Prop} {a a' : Act} (h : WOK E a) (k : Keeps S a a') (hv : S E.sV) (hf : E.fl = true → S E.sF) : WOK E a' :=
  ⟨k.size.trans h.1, k.defers.trans h.2.1, (k.slot _ hv).trans h.2.2.1, fun e => (k.slot _ (hf e)).trans (h.2.2.2 e)⟩
def WEnv.safe (E : WEnv) (m k : Nat) : Prop := WS m E.T k E.sV ∧ (E.fl = true → WS m E.T k E.sF)
instance (E : WEnv) (m k : Nat) : Decidable (E.safe m k) := inferInstanceAs (Decidable (_ ∧ _))
def WQ (S : Nat → Prop) (a : Act) (w : World) (base : Nat) (v : Value) (bs : Bs) : Exit → Act → World → Prop
  | .normal, a', w' => Keeps S a a' ∧ App eB w base v bs (get a' 1) w'
  | _, _, _ => False
def WrC (E : WEnv) (m k : Nat) (c : Code) (pre : Act → World → Nat → Prop) (enc : Bs) : Prop :=
  ∀ (a : Act) (w : World) (base : Nat) (v : Value) (bs : Bs), WOK E a → get a 1 = v → Own eB w base v bs → base ≤ w.heap.size → pre a w base → bs.length + enc.length ≤ LIM →
    c.wp Tryd.prog (WQ (WS m E.T k) a w base v (bs ++ enc)) a w
theorem App.refl {w : World} {base : Nat} {v : Value} {bs : Bs} (h : Own eB w base v bs) : App eB w base v bs v w := ⟨h, Chg.refl _ _, .inl rfl⟩
def Stable (E : WEnv) (m k : Nat) (pre pre' : Act → World → Nat → Prop) : Prop :=
  ∀ a w base a' w', pre a w base → Keeps (WS m E.T k) a a' → Chg (fun n => base ≤ n) w w' → base ≤ w.heap.size → pre' a' w' base
theorem wr_seq {E : WEnv} {m k : Nat} {c1 c2 : Code} {pre pre1 pre2 : Act → World → Nat → Prop} {enc1 enc2 : Bs} (hE : E.safe m k)
    (h1 : WrC E m k c1 pre1 enc1) (h2 : WrC E m k c2 pre2 enc2) (hp : ∀ a w base, pre a w base → pre1 a w base) (hs : Stable E m k pre pre2) : WrC E m k (.seq c1 c2) pre (enc1 ++ enc2) := by
  intro a w base v bs hok hv hown hb hpre hlim
  rw [List.length_append] at hlim
  refine wp_seq (wp_mono (h1 a w base v bs hok hv hown hb (hp _ _ _ hpre) (by omega)) ?_)
  intro e a1 w1 hq
  cases e <;> try exact hq.elim
  obtain ⟨hk, happ⟩ := hq
  have hc := happ.chgFrom hown
  refine wp_mono (h2 a1 w1 base _ _ (hok.keep hk hE.1 hE.2) rfl happ.own (Nat.le_trans hb hc.size) (hs _ _ _ _ _ hpre hk hc hb) (by rw [List.length_append]; omega)) ?_
  intro e a2 w2 hq
  cases e <;> try exact hq.elim
  obtain ⟨hk2, happ2⟩ := hq
  refine ⟨hk.trans hk2, ?_⟩
  rw [← List.append_assoc]
  exact happ.trans happ2
theorem wr_skip {E : WEnv} {m k : Nat} {pre : Act → World → Nat → Prop} : WrC E m k .skip pre [] := by
  intro a w base v bs hok hv hown hb hpre hlim
  refine wp_skip ⟨Keeps.refl _ _, ?_⟩
  rw [hv, List.append_nil]
  exact App.refl hown
theorem wr_pre {E : WEnv} {m k : Nat} {c : Code} {pre pre' : Act → World → Nat → Prop} {enc : Bs} (h : WrC E m k c pre enc) (hp : ∀ a w base, pre' a w base → pre a w base) : WrC E m k c pre' enc :=
  fun a w base v bs hok hv hown hb hpre hlim => h a w base v bs hok hv hown hb (hp _ _ _ hpre) hlim
theorem wr_mono {E : WEnv} {m k m' k' : Nat} {c : Code} {pre : Act → World → Nat → Prop} {enc : Bs} (hm : m ≤ m') (hk : k ≤ k') (h : WrC E m' k' c pre enc) : WrC E m k c pre enc :=
  fun a w base v bs hok hv hown hb hpre hlim => wp_mono (h a w base v bs hok hv hown hb hpre hlim) fun e a' w' hq => by
    cases e <;> first | exact hq.elim | exact ⟨hq.1.mono fun t ht => ht.mono hm hk, hq.2⟩
section
variable {E : WEnv} {m k : Nat} {y0 y1 y2 y3 y4 y5 y6 y7 y8 y9 : TypeId} {q0 q1 q2 q3 q4 q5 q6 q7 q8 q9 : String} {e0 e1 e2 e3 e4 e5 e6 e7 e8 e9 : Array Edge} {r0 r1 r2 r3 r4 : Nat}
theorem wr_go {c : Code} {pre : Act → World → Nat → Prop} {enc : Bs} {m' k' : Nat} (hm : m ≤ m') (hk : k ≤ k') (hE : E.safe m k) (h : WrC E m' k' c pre enc) {a a1 : Act} {w : World} {base : Nat} {v : Value} {bs : Bs}
    (hok : WOK E a) (hv : get a 1 = v) (hown : Own eB w base v bs) (hb : base ≤ w.heap.size) (hlim : bs.length + enc.length ≤ LIM)
    (hkp : Keeps (WS m E.T k) a a1) (h1 : get a1 1 = get a 1) (hpre : pre a1 w base) : c.wp Tryd.prog (WQ (WS m E.T k) a w base v (bs ++ enc)) a1 w := by
  refine wp_mono (h a1 w base v bs (hok.keep hkp hE.1 hE.2) (h1.trans hv) hown hb hpre hlim) ?_
  intro e a2 w2 hq
  cases e <;> first | exact hq.elim | exact ⟨hkp.trans (hq.1.mono fun t ht => ht.mono hm hk), hq.2⟩
def PrS (E : WEnv) (sS k0 : Nat) (fs : List Fld) (s : S) (a : Act) (w : World) (base : Nat) : Prop :=
  ∃ B p, get a sS = .pointer (some ⟨B, p, none⟩) ∧ At w (fun g => g < base) E.fl fs s B (p + k0) ∧ B < base
theorem PrS.stable {sS k0 : Nat} {fs : List Fld} {s : S} (h : WS m E.T k sS) : Stable E m k (PrS E sS k0 fs s) (PrS E sS k0 fs s) := by
  rintro a w base a' w' ⟨B, p, h1, h2, h3⟩ hk hc hb
  exact ⟨B, p, (hk.slot _ h).trans h1, h2.stay (Stay.of hc fun n hn _ => by omega) (hc.block B (by omega) (by omega)), h3⟩
def PrF (E : WEnv) (x : Nat) (f : Fld) (d : D) (a : Act) (w : World) (base : Nat) : Prop :=
  ∃ val, get a x = val ∧ RepF w (fun g => g < base) E.fl f d [val]
theorem seg1 {l : List Value} {o : Nat} (h : o + 1 ≤ l.length) : ∃ v, l[o]? = some v ∧ (l.drop o).take 1 = [v] := by
  have ho : o < l.length := by omega
  refine ⟨l[o], by simp [ho], ?_⟩
  rw [List.drop_eq_getElem_cons ho, List.take_succ_cons, List.take_zero]
theorem wr_field {sS k0 i T idx ty x t1 t2 t3 t4 m' k' off n : Nat} {fs : List Fld} {s : S} {f : Fld} {d : D} {c : Code} {enc : Bs}
    (hf : fs[i]? = some f) (hd : s.ds[i]? = some d) (h1 : fsz E.fl f = 1) (hF : fieldB Tryd.prog T idx off n = true) (ho : off = k0 + foff E.fl fs i) (hty : scalB Tryd.prog ty = true)
    (hsl : E.safe m k ∧ m ≤ m' ∧ k ≤ k' ∧ Fre E m k t1 ∧ Fre E m k t2 ∧ Fre E m k t3 ∧ Fre E m k t4 ∧ Fre E m k x ∧ t1 ≠ 1 ∧ t2 ≠ 1 ∧ t3 ≠ 1 ∧ t4 ≠ 1 ∧ x ≠ 1)
    (h : WrC E m' k' c (PrF E x f d) enc) :
    WrC E m k (.seq (.region r0 #[⟨some t1, .move (.tmp sS), y0, q0, e0, none⟩, ⟨some t2, .nilCheck (.tmp t1), y1, q1, e1, none⟩, ⟨some t3, .fieldAddr T (.tmp t2) idx, y2, q2, e2, none⟩, ⟨some t4, .load ty (.tmp t3), y3, q3, e3, none⟩, ⟨some x, .assign (.tmp t4), y4, q4, e4, none⟩] false) c) (PrS E sS k0 fs s) enc := by
  obtain ⟨hE, hm, hk, f1, f2, f3, f4, fx, n1, n2, n3, n4, nx⟩ := hsl
  intro a w base v bs hok hv hown hb hpre hlim
  obtain ⟨B, p, g1, hat, hB⟩ := hpre
  obtain ⟨d', cs, Tb, k1, k2, k3, k4⟩ := hat.field hf
  rw [hd] at k1; cases k1
  rw [h1] at k3 k4
  obtain ⟨val, hval, hseg⟩ := seg1 (by omega : (p + k0 + foff E.fl fs i) + 1 ≤ cs.length)
  rw [hseg] at k4
  refine wp_seq_k fun K hK => ?_
  refine wp_reg ?_
  refine wl_move ?_
  rw [eval_tmp, g1]
  refine wl_nilCheck (p := ⟨B, p, none⟩) (by rw [eval_tmp, get_put_self (by rw [hok.1]; exact f1.2)]) ?_
  refine wl_fieldAddr (b := B) (o := p) hF (by rw [eval_tmp, get_put_self (by rw [size_put, hok.1]; exact f2.2)]) ?_
  refine wl_load hty (by rw [eval_tmp, get_put_self (by rw [size_put, size_put, hok.1]; exact f3.2)]) k2 (v := val) (by rw [ho, ← Nat.add_assoc]; exact hval) ?_
  refine wl_assign ?_
  rw [eval_tmp, get_put_self (by rw [size_put, size_put, size_put, hok.1]; exact f4.2)]
  refine wl_nil (hK _ _ ?_)
  refine wr_go hm hk hE h hok hv hown hb hlim (((((Keeps.refl _ _).put f1.1 _).put f2.1 _).put f3.1 _).put f4.1 _ |>.put fx.1 _) ?_ ⟨val, get_put_self (by simp only [size_put, hok.1]; exact fx.2), k4⟩
  rw [get_put_ne nx, get_put_ne n4, get_put_ne n3, get_put_ne n2, get_put_ne n1]
theorem wv_call {x t1 t2 t3 : Nat} {f : Fld} {d : D} {enc : Bs} {fn : FuncId} {ts : Array TypeId} (hen : Enters Tryd.prog fn)
    (hc : ∀ w base val, RepF w (fun g => g < base) E.fl f d [val] → ∃ pr, AppC fn [val] enc pr ∧ pr w)
    (hsl : Fre E m k t1 ∧ Fre E m k t2 ∧ Fre E m k t3 ∧ t1 ≠ 1 ∧ t1 ≠ t2 ∧ t1 ≠ x ∧ ¬ WS m E.T k 1 ∧ 1 < E.N) :
    WrC E m k (.region r0 #[⟨some t1, .move (.tmp 1), y0, q0, e0, none⟩, ⟨some t2, .move (.tmp x), y1, q1, e1, none⟩, ⟨some t3, .call { callee := .value (.func fn), args := #[.tmp t1, .tmp t2], argTypes := ts }, y2, q2, e2, none⟩, ⟨some 1, .assign (.tmp t3), y3, q3, e3, none⟩] false) (PrF E x f d) enc := by
  obtain ⟨f1, f2, f3, n1, n12, n1x, hw1, hN1⟩ := hsl
  intro a w base v bs hok hv hown hb hpre hlim
  obtain ⟨val, g1, hr⟩ := hpre
  obtain ⟨pr, happ, hpr⟩ := hc w base val hr
  refine wp_reg ?_
  refine wl_move ?_
  refine wl_move ?_
  rw [eval_tmp, eval_tmp, hv, get_put_ne n1x, g1]
  refine wl_callApp hen happ ?_ hown hlim hb hpr ?_
  · simp only [List.map_toArray, List.map_cons, List.map_nil, eval_tmp]
    rw [get_put_self (by rw [size_put, hok.1]; exact f2.2), get_put_ne (Ne.symm n12), get_put_self (by rw [hok.1]; exact f1.2)]
  intro v' w' ha
  refine wl_assign ?_
  rw [eval_tmp, get_put_self (by simp only [size_put, hok.1]; exact f3.2)]
  refine wl_nil ⟨((((Keeps.refl _ _).put f1.1 _).put f2.1 _).put f3.1 _).put hw1 _, ?_⟩
  rw [get_put_self (by simp only [size_put, hok.1]; exact hN1)]
  exact ha
theorem wv_flex {t : Nat} {ca cb : Code} {pre : Act → World → Nat → Prop} {enc : Bs} (hfl : E.fl = true)
    (ha : E.flex = true → WrC E m k ca pre enc) (hb' : E.flex = false → WrC E m k cb pre enc) (hp : ∀ a w base v, pre a w base → pre (a.put (some t) v) w base)
    (hsl : E.safe m k ∧ Fre E m k t ∧ t ≠ 1) :
    WrC E m k (.seq (.region r0 #[⟨some t, .move (.tmp E.sF), y0, q0, e0, none⟩] false) (.cond (.tmp t) ca cb)) pre enc := by
  obtain ⟨hE, f1, n1⟩ := hsl
  intro a w base v bs hok hv hown hb hpre hlim
  refine wp_seq_k fun K hK => ?_
  refine wp_reg ?_
  refine wl_move ?_
  rw [eval_tmp, hok.2.2.2 hfl]
  refine wl_nil (hK _ _ ?_)
  have hkp : Keeps (WS m E.T k) a (a.put (some t) (.bool E.flex)) := (Keeps.refl _ _).put f1.1 _
  have hev : (a.put (some t) (.bool E.flex)).eval (.tmp t) = .bool E.flex := by rw [eval_tmp, get_put_self (by rw [hok.1]; exact f1.2)]
  cases hx : E.flex with
  | true =>
    rw [hx] at hev hkp
    exact wp_cond_true hev (wr_go (Nat.le_refl _) (Nat.le_refl _) hE (ha hx) hok hv hown hb hlim hkp (get_put_ne n1) (hp _ _ _ _ hpre))
  | false =>
    rw [hx] at hev hkp
    exact wp_cond_false hev (wr_go (Nat.le_refl _) (Nat.le_refl _) hE (hb' hx) hok hv hown hb hlim hkp (get_put_ne n1) (hp _ _ _ _ hpre))
theorem PrF.put {x : Nat} {f : Fld} {d : D} {t : Nat} (h : t ≠ x) : ∀ a w base v, PrF E x f d a w base → PrF E x f d (a.put (some t) v) w base := by
  rintro a w base v ⟨val, h1, h2⟩
  exact ⟨val, (get_put_ne h).trans h1, h2⟩
theorem PrS.put {sS k0 : Nat} {fs : List Fld} {s : S} {t : Nat} (h : t ≠ sS) : ∀ a w base v, PrS E sS k0 fs s a w base → PrS E sS k0 fs s (a.put (some t) v) w base := by
  rintro a w base v ⟨B, p, h1, h2⟩
  exact ⟨B, p, (get_put_ne h).trans h1, h2⟩
theorem wr_ifver {t1 t2 : Nat} {u : Nat} {c : Code} {n : Int} {pre : Act → World → Nat → Prop} {enc : Bs}
    (h : n ≤ E.ver → WrC E m k c pre enc) (hp : ∀ a w base v, pre a w base → pre (a.put (some t1) v) w base) (hp2 : ∀ a w base v, pre a w base → pre (a.put (some t2) v) w base)
    (hsl : E.safe m k ∧ Fre E m k t1 ∧ Fre E m k t2 ∧ t1 ≠ 1 ∧ t2 ≠ 1) :
    WrC E m k (.seq (.region r0 #[⟨some t1, .move (.tmp E.sV), y0, q0, e0, none⟩, ⟨some t2, .binOp .geq u (.tmp t1) (.const (.int .i16 n)) u, y1, q1, e1, none⟩] false) (.cond (.tmp t2) c .skip)) pre (if n ≤ E.ver then enc else []) := by
  obtain ⟨hE, f1, f2, n1, n2⟩ := hsl
  intro a w base v bs hok hv hown hb hpre hlim
  refine wp_seq_k fun K hK => ?_
  refine wp_reg ?_
  refine wl_move ?_
  rw [eval_tmp, hok.2.2.1]
  have hx : (a.put (some t1) (.int .i16 E.ver)).eval (.tmp t1) = .int .i16 E.ver := by rw [eval_tmp, get_put_self (by rw [hok.1]; exact f1.2)]
  refine wl_geq (by rw [hx]; rfl) ?_
  rw [hx]
  simp only [eval_const, cmp2]
  refine wl_nil (hK _ _ ?_)
  have hkp : Keeps (WS m E.T k) a ((a.put (some t1) (.int .i16 E.ver)).put (some t2) (.bool (decide (n ≤ E.ver)))) := ((Keeps.refl _ _).put f1.1 _).put f2.1 _
  have hev : ((a.put (some t1) (.int .i16 E.ver)).put (some t2) (.bool (decide (n ≤ E.ver)))).eval (.tmp t2) = .bool (decide (n ≤ E.ver)) := by rw [eval_tmp, get_put_self (by rw [size_put, hok.1]; exact f2.2)]
  by_cases hc : n ≤ E.ver
  · rw [if_pos hc] at hlim ⊢
    rw [decide_eq_true hc] at hev hkp ⊢
    exact wp_cond_true hev (wr_go (Nat.le_refl _) (Nat.le_refl _) hE (h hc) hok hv hown hb hlim hkp ((get_put_ne n2).trans (get_put_ne n1)) (hp2 _ _ _ _ (hp _ _ _ _ hpre)))
  · rw [if_neg hc] at hlim ⊢
    rw [decide_eq_false hc] at hev hkp ⊢
    exact wp_cond_false hev (wr_go (Nat.le_refl _) (Nat.le_refl _) hE wr_skip hok hv hown hb hlim hkp ((get_put_ne n2).trans (get_put_ne n1)) (hp2 _ _ _ _ (hp _ _ _ _ hpre)))
end
end Go.Proofs.YtgjnllebnkjofaaDoor
namespace Go.Proofs.YtgjnllebnkjofaaDoor
set_option linter.all false
open Go.RowKit
set_option maxRecDepth 10000
def mapB (P : Program) (t : Nat) : Bool := match P.underlying t with | some (.map _ _) => true | _ => false
theorem run_lenM {t ty : TypeId} {w : World} {G : Nat → Prop} {m : Option Nat} {tags : Tags} (ht : mapB Tryd.prog t = true) (h : TagsAt w G m tags) :
    (Builtin.len_ #[t] ty #[.map m]).run Tryd.prog w = .ok (.int .i64 tags.length) w := by
  unfold mapB at ht
  split at ht
  · rename_i a b hu
    rcases h with ⟨rfl, rfl⟩ | ⟨r, es, clock, rfl, _, h3, h4, _⟩
    · simp [Builtin.len_, underlying, hu, goInt]
    · have := h4.length
      simp [Builtin.len_, underlying, hu, getObj, Sem.run, h3, goInt, ← this]
  · cases ht
theorem wl_lenM {ops : Array Oper} {Q : Exit → Act → World → Prop} {a : Act} {w : World} {rest : List Oper} {d : Option Nat} {ty : TypeId} {pos : String} {af : Array Edge}
    {t : TypeId} {x : Operand} {G : Nat → Prop} {m : Option Nat} {tags : Tags} (ht : mapB Tryd.prog t = true) (h : TagsAt w G m tags) (hx : a.eval x = .map m)
    (hn : WL Tryd.prog ops Q rest (a.put d (.int .i64 tags.length)) w) :
    WL Tryd.prog ops Q (⟨d, .call { callee := .builtin .len, args := #[x], argTypes := #[t] }, ty, pos, af, none⟩ :: rest) a w :=
  wl_val rfl (by simp [execOp, resolve, invoke, builtin, hx, run_lenM ht h]) hn
end Go.Proofs.YtgjnllebnkjofaaDoor
namespace Go.Proofs.YtgjnllebnkjofaaDoor
set_option linter.all false
open Go.RowKit
set_option maxRecDepth 10000
theorem be_lt (a b : Nat) : True := trivial
section
variable {E : WEnv} {m k : Nat} {y0 y1 y2 y3 y4 y5 y6 y7 y8 y9 y10 y11 y12 y13 y14 y15 y16 y17 y18 y19 y20 y21 y22 y23 y24 y25 y26 y27 y28 y29 y30 y31 y32 y33 y34 y35 y36 y37 y38 y39 : TypeId} {q0 q1 q2 q3 q4 q5 q6 q7 q8 q9 q10 q11 q12 q13 q14 q15 q16 q17 q18 q19 q20 q21 q22 q23 q24 q25 q26 q27 q28 q29 q30 q31 q32 q33 q34 q35 q36 q37 q38 q39 : String} {e0 e1 e2 e3 e4 e5 e6 e7 e8 e9 e10 e11 e12 e13 e14 e15 e16 e17 e18 e19 e20 e21 e22 e23 e24 e25 e26 e27 e28 e29 e30 e31 e32 e33 e34 e35 e36 e37 e38 e39 : Array Edge} {r0 r1 r2 r3 r4 r5 : Nat}
theorem wr_ifflex {t : Nat} {c : Code} {pre : Act → World → Nat → Prop} {enc : Bs} (hfl : E.fl = true) (h : E.flex = true → WrC E m k c pre enc) (hp : ∀ a w base v, pre a w base → pre (a.put (some t) v) w base)
    (hsl : E.safe m k ∧ Fre E m k t ∧ t ≠ 1) : WrC E m k (.seq (.region r0 #[⟨some t, .move (.tmp E.sF), y0, q0, e0, none⟩] false) (.cond (.tmp t) c .skip)) pre (if E.flex then enc else []) := by
  refine wv_flex hfl (fun hx => ?_) (fun hx => ?_) hp hsl
  · rw [hx, if_pos rfl]; exact h hx
  · rw [hx]; exact wr_skip
def PrL (x : Nat) (oa : Option Addr) (n cap : Nat) (M : World → Nat → Prop) (a : Act) (w : World) (base : Nat) : Prop := get a x = .slice oa n cap ∧ M w base
theorem wr_loop {x u0 u1 u2 u3 u4 m' k' b1 b2 ty ti esz n cap : Nat} {oa : Option Addr} {M : World → Nat → Prop} {body : Code} {encs : Nat → Bs}
    (hty : sliceB Tryd.prog ty esz = true) (hM : ∀ w w' base, M w base → Chg (fun g => base ≤ g) w w' → base ≤ w.heap.size → M w' base) (hn : n ≤ 1073741824)
    (hbody : ∀ i, i < n → WrC E m' k' body (fun a w base => get a u2 = .int .i64 i ∧ PrL x oa n cap M a w base) (encs i))
    (hE : E.safe m k ∧ WS m E.T k x ∧ m ≤ m' ∧ k ≤ k' ∧ WS m' E.T k' u1 ∧ WS m' E.T k' u2) (hfr : ∀ d ∈ [u0, u1, u2, u3, u4], Fre E m k d) (hnd : [1, x, u0, u1, u2, u3, u4].Nodup) :
    WrC E m k (.seq (.region r0 #[⟨some u0, .move (.tmp x), y0, q0, e0, none⟩, ⟨some u1, .call { callee := .builtin .len, args := #[.tmp u0], argTypes := #[ty] }, y1, q1, e1, none⟩, ⟨some u2, .move (.const (.int .i64 0)), y2, q2, e2, none⟩] false)
      (.block b1 (.loop (.seq (.region r1 #[⟨some u3, .binOp .lss ti (.tmp u2) (.tmp u1) ti, y3, q3, e3, none⟩] false) (.seq (.cond (.tmp u3) .skip (.exit b1)) (.seq (.block b2 body)
        (.region r2 #[⟨some u4, .binOp .add ti (.tmp u2) (.const (.int .i64 1)) ti, y4, q4, e4, none⟩, ⟨some u2, .move (.tmp u4), y5, q5, e5, none⟩] false)))))))
      (PrL x oa n cap M) ((List.range n).flatMap encs) := by
  obtain ⟨hE, hX, hm, hk, hU1, hU2⟩ := hE
  simp only [List.nodup_cons, List.mem_cons, List.not_mem_nil, or_false, not_or, List.nodup_nil, and_true, not_false_eq_true] at hnd; simp only [List.mem_cons, List.not_mem_nil, or_false, forall_eq_or_imp, forall_eq, Fre] at hfr
  intro a w base v bs hwk hv hown hb hpre hlim
  have hN := hwk.1
  obtain ⟨g1, hM0⟩ := hpre
  refine wp_seq_k fun K hK => ?_
  refine wp_reg ?_
  refine wl_move ?_
  simp only [eval_tmp, eval_const, eval_func, get_put_self, get_put_ne, get_put_ne', ne_eq, size_put, hN, hnd, hfr, not_false_eq_true, g1]
  refine wl_len (sliceB.any hty) (by simp only [eval_tmp, eval_const, eval_func, get_put_self, get_put_ne, get_put_ne', ne_eq, size_put, hN, hnd, hfr, not_false_eq_true, isS]) ?_
  simp only [eval_tmp, eval_const, eval_func, get_put_self, get_put_ne, get_put_ne', ne_eq, size_put, hN, hnd, hfr, not_false_eq_true, lenV]
  refine wl_move ?_
  simp only [eval_tmp, eval_const, eval_func, get_put_self, get_put_ne, get_put_ne', ne_eq, size_put, hN, hnd, hfr, not_false_eq_true]
  refine wl_nil (hK _ _ ?_)
  clear hK K
  refine wp_block ?_
  have pre_le : ∀ i, i ≤ n → ((List.range i).flatMap encs).length ≤ ((List.range n).flatMap encs).length := by
    intro i hi
    have e : List.range n = List.range i ++ (List.range (n - i)).map (i + ·) := by
      rw [← List.range_add]; congr 1; omega
    rw [e, List.flatMap_append, List.length_append]; omega
  refine wp_loop (fun a' w' => ∃ i, i ≤ n ∧ get a' u2 = .int .i64 i ∧ get a' u1 = .int .i64 n ∧ Keeps (WS m E.T k) a a' ∧ M w' base ∧ App eB w base v (bs ++ (List.range i).flatMap encs) (get a' 1) w')
    (fun a' _ => n - (intOf (get a' u2)).toNat) ?_ ?_
  · refine ⟨0, Nat.zero_le _, by simp only [eval_tmp, eval_const, eval_func, get_put_self, get_put_ne, get_put_ne', ne_eq, size_put, hN, hnd, hfr, not_false_eq_true]; rfl, by simp only [eval_tmp, eval_const, eval_func, get_put_self, get_put_ne, get_put_ne', ne_eq, size_put, hN, hnd, hfr, not_false_eq_true], by ((repeat (with_reducible refine Keeps.put ?_ (by simp only [hfr, not_false_eq_true]) _)); with_reducible exact Keeps.refl _ _), hM0, ?_⟩
    simp only [eval_tmp, eval_const, eval_func, get_put_self, get_put_ne, get_put_ne', ne_eq, size_put, hN, hnd, hfr, not_false_eq_true, hv]
    simp only [List.range_zero, List.flatMap_nil, List.append_nil]
    exact App.refl hown
  clear hN
  rintro a1 w1 ⟨i, hi, g2, g3, hkp, hM1, happ⟩
  have hN : a1.tmps.size = E.N := hkp.size.trans hwk.1
  have hc1 := happ.chgFrom hown
  refine wp_seq_k fun K hK => ?_
  refine wp_reg ?_
  refine wl_lss (by simp only [eval_tmp, eval_const, eval_func, get_put_self, get_put_ne, get_put_ne', ne_eq, size_put, hN, hnd, hfr, not_false_eq_true, g2, g3, sameK, decide_true]) ?_
  simp only [eval_tmp, eval_const, eval_func, get_put_self, get_put_ne, get_put_ne', ne_eq, size_put, hN, hnd, hfr, not_false_eq_true, g2, g3, cmp2]
  refine wl_nil (hK _ _ ?_)
  clear hK K
  refine wp_seq_k fun K hK => ?_
  by_cases hlt : i < n
  · have e1 : decide ((i : Int) < (n : Int)) = true := decide_eq_true (by omega)
    rw [e1]
    refine wp_cond_true (by simp only [eval_tmp, eval_const, eval_func, get_put_self, get_put_ne, get_put_ne', ne_eq, size_put, hN, hnd, hfr, not_false_eq_true]) ?_
    refine wp_skip (hK _ _ ?_)
    clear hK K
    refine wp_seq_k fun K hK => ?_
    refine wp_block ?_
    have hkp2 : Keeps (WS m E.T k) a (a1.put (some u3) (.bool true)) := hkp.put (by simp only [hfr, not_false_eq_true]) _
    have hl := pre_le (i + 1) hlt
    rw [List.range_succ, List.flatMap_append, List.length_append] at hl
    simp only [List.flatMap_cons, List.flatMap_nil, List.append_nil] at hl
    have hgo := hbody i hlt (a1.put (some u3) (.bool true)) w1 base (get a1 1) _ (hwk.keep hkp2 hE.1 hE.2) (by simp only [eval_tmp, eval_const, eval_func, get_put_self, get_put_ne, get_put_ne', ne_eq, size_put, hN, hnd, hfr, not_false_eq_true]) happ.own (Nat.le_trans hb hc1.size)
      ⟨by simp only [eval_tmp, eval_const, eval_func, get_put_self, get_put_ne, get_put_ne', ne_eq, size_put, hN, hnd, hfr, not_false_eq_true, g2], (hkp2.slot _ hX).trans g1, hM1⟩ (by rw [List.length_append]; omega)
    refine wp_mono hgo ?_
    intro e a2 w2 hq
    cases e <;> try exact hq.elim
    obtain ⟨hk2, happ2⟩ := hq
    refine hK _ _ ?_
    clear hK K
    have hN1 := hN
    clear hN
    have hN : a2.tmps.size = E.N := hk2.size.trans (by rw [size_put]; exact hN1)
    have h2 : get a2 u2 = .int .i64 i := (hk2.slot _ hU2).trans (by rw [get_put_ne' (by simp only [hnd, ne_eq, not_false_eq_true])]; exact g2)
    have h3 : get a2 u1 = .int .i64 n := (hk2.slot _ hU1).trans (by rw [get_put_ne' (by simp only [hnd, ne_eq, not_false_eq_true])]; exact g3)
    refine wp_reg ?_
    refine wl_add (by simp only [eval_tmp, eval_const, eval_func, get_put_self, get_put_ne, get_put_ne', ne_eq, size_put, hN, hnd, hfr, not_false_eq_true, h2, sameK, decide_true]) ?_
    simp only [eval_tmp, eval_const, eval_func, get_put_self, get_put_ne, get_put_ne', ne_eq, size_put, hN, hnd, hfr, not_false_eq_true, h2, add2]
    refine wl_move ?_
    simp only [eval_tmp, eval_const, eval_func, get_put_self, get_put_ne, get_put_ne', ne_eq, size_put, hN, hnd, hfr, not_false_eq_true]
    rw [i64_id ((i : Int) + 1) (by omega)]
    refine wl_nil ?_
    have happ3 := happ.trans happ2
    have hkp3 : Keeps (WS m E.T k) a a2 := hkp2.trans (hk2.mono fun t ht => ht.mono hm hk)
    refine ⟨⟨i + 1, hlt, by simp only [eval_tmp, eval_const, eval_func, get_put_self, get_put_ne, get_put_ne', ne_eq, size_put, hN, hnd, hfr, not_false_eq_true]; rfl, by simp only [eval_tmp, eval_const, eval_func, get_put_self, get_put_ne, get_put_ne', ne_eq, size_put, hN, hnd, hfr, not_false_eq_true, h3], ?_, hM _ _ _ hM1 (happ2.chgFrom happ.own) (Nat.le_trans hb hc1.size), ?_⟩, ?_⟩
    · refine Keeps.put (Keeps.put hkp3 (by simp only [hfr, not_false_eq_true]) _) (by simp only [hfr, not_false_eq_true]) _
    · simp only [eval_tmp, eval_const, eval_func, get_put_self, get_put_ne, get_put_ne', ne_eq, size_put, hN, hnd, hfr, not_false_eq_true]
      rw [List.range_succ, List.flatMap_append, ← List.append_assoc]
      simp only [List.flatMap_cons, List.flatMap_nil, List.append_nil]
      exact happ3
    · simp only [eval_tmp, eval_const, eval_func, get_put_self, get_put_ne, get_put_ne', ne_eq, size_put, hN, hnd, hfr, not_false_eq_true, g2, intOf]
      omega
  · have e1 : decide ((i : Int) < (n : Int)) = false := decide_eq_false (by omega)
    rw [e1]
    have ei : i = n := by omega
    subst ei
    refine wp_cond_false (by simp only [eval_tmp, eval_const, eval_func, get_put_self, get_put_ne, get_put_ne', ne_eq, size_put, hN, hnd, hfr, not_false_eq_true]) ?_
    refine wp_exit ?_
    simp only [Exit.then, Exit.inBlock, if_pos]
    refine ⟨hkp.put (by simp only [hfr, not_false_eq_true]) _, ?_⟩
    simp only [eval_tmp, eval_const, eval_func, get_put_self, get_put_ne, get_put_ne', ne_eq, size_put, hN, hnd, hfr, not_false_eq_true]
    exact happ
end
end Go.Proofs.YtgjnllebnkjofaaDoor
namespace Go.Proofs.YtgjnllebnkjofaaDoor
set_option linter.all false
open Go.RowKit
set_option maxRecDepth 10000
section
variable {E : WEnv} {m k : Nat} {y0 y1 y2 y3 y4 y5 y6 y7 y8 y9 y10 y11 y12 y13 y14 y15 y16 y17 y18 y19 y20 y21 y22 y23 y24 y25 y26 y27 y28 y29 y30 y31 y32 y33 y34 y35 y36 y37 y38 y39 : TypeId} {q0 q1 q2 q3 q4 q5 q6 q7 q8 q9 q10 q11 q12 q13 q14 q15 q16 q17 q18 q19 q20 q21 q22 q23 q24 q25 q26 q27 q28 q29 q30 q31 q32 q33 q34 q35 q36 q37 q38 q39 : String} {e0 e1 e2 e3 e4 e5 e6 e7 e8 e9 e10 e11 e12 e13 e14 e15 e16 e17 e18 e19 e20 e21 e22 e23 e24 e25 e26 e27 e28 e29 e30 e31 e32 e33 e34 e35 e36 e37 e38 e39 : Array Edge} {r0 r1 r2 r3 r4 r5 : Nat}
def ML (E : WEnv) (of : K) (sub : List Fld) (l : List D) (oa : Option Addr) (w : World) (base : Nat) : Prop :=
  l = [] ∨ ∃ b cs T, oa = some ⟨b, 0, none⟩ ∧ b < base ∧ Blk w b cs T ∧
    match of with
    | .struct => l.length * ssz E.fl sub ≤ cs.length ∧ ∀ i x, l[i]? = some x → ∃ s : S, x = s.d ∧ ∃ v1 v2, ((cs.drop (i * ssz E.fl sub)).take (ssz E.fl sub)) = v1 ++ v2 ∧ RepL w (fun g => g < base) E.fl sub s.ds v1 ∧ RepT w (fun g => g < base) E.fl s.tags v2
    | k => l.length * ksz k ≤ cs.length ∧ ∀ i x, l[i]? = some x → RepK w (fun g => g < base) k x ((cs.drop (i * ksz k)).take (ksz k))
theorem ML.stable {of : K} {sub : List Fld} {l : List D} {oa : Option Addr} : ∀ w w' base, ML E of sub l oa w base → Chg (fun g => base ≤ g) w w' → base ≤ w.heap.size → ML E of sub l oa w' base := by
  intro w w' base h hc hb
  have st : Stay w w' (fun g => g < base) (fun g => g < base) := Stay.of hc fun n hn _ => by omega
  rcases h with h | ⟨b, cs, T, h1, h2, h3, h4⟩
  · exact .inl h
  · refine .inr ⟨b, cs, T, h1, h2, h3.chg hc (by omega), ?_⟩
    cases of <;> try (exact ⟨h4.1, fun i x hx => (h4.2 i x hx).stay st⟩)
    refine ⟨h4.1, fun i x hx => ?_⟩
    obtain ⟨s, k1, v1, v2, k2, k3, k4⟩ := h4.2 i x hx
    exact ⟨s, k1, v1, v2, k2, RepL.stay st k3, k4.stay st⟩
theorem PrL.stable {x : Nat} {oa : Option Addr} {n cap : Nat} {M : World → Nat → Prop} (hx : WS m E.T k x) (hM : ∀ w w' base, M w base → Chg (fun g => base ≤ g) w w' → base ≤ w.heap.size → M w' base) :
    Stable E m k (PrL x oa n cap M) (PrL x oa n cap M) :=
  fun _ _ _ _ _ h hk hc hb => ⟨(hk.slot _ hx).trans h.1, hM _ _ _ h.2 hc hb⟩
theorem wr_list {x : Nat} {a1 a2 a3 a4 a5 : Int} {of : K} {sub : List Fld} {nil : Bool} {l : List D} {c1 c2 : Code} {enc1 enc2 : Bs}
    (h1 : ∀ oa cap, oa.isNone = nil → WrC E m k c1 (PrL x oa l.length cap (ML E of sub l oa)) enc1)
    (h2 : ∀ oa cap, l.length ≤ 1073741824 → WrC E m k c2 (PrL x oa l.length cap (ML E of sub l oa)) enc2)
    (hE : E.safe m k ∧ WS m E.T k x) : WrC E m k (.seq c1 c2) (PrF E x (.mk .list a1 a2 a3 a4 a5 of sub) (.arr nil l)) (enc1 ++ enc2) := by
  intro a w base v bs hwk hv hown hb hpre hlim
  obtain ⟨val, g1, hr⟩ := hpre
  unfold RepF at hr
  dsimp only at hr
  obtain ⟨oa, cap, h3, h4, h5, h6⟩ := hr
  simp only [List.cons.injEq, and_true] at h3
  subst h3
  exact wr_seq hE.1 (h1 oa cap h4.1.symm) (h2 oa cap h5) (fun _ _ _ h => h) (PrL.stable hE.2 ML.stable) a w base v bs hwk hv hown hb ⟨g1, h6⟩ hlim
theorem wl_alen {x t1 t2 t3 t4 ty n cap : Nat} {oa : Option Addr} {M : World → Nat → Prop} {enc : Bs} {fn : FuncId} {us : Array TypeId} (hty : slB Tryd.prog ty = true) (hen : Enters Tryd.prog fn)
    (hc : AppC fn [.int .i64 n] enc (fun _ => True)) (hfr : ∀ d ∈ [1, t1, t2, t3, t4], Fre E m k d) (hnd : [1, x, t1, t2, t3, t4].Nodup) :
    WrC E m k (.region r0 #[⟨some t1, .move (.tmp 1), y0, q0, e0, none⟩, ⟨some t2, .move (.tmp x), y1, q1, e1, none⟩, ⟨some t3, .call { callee := .builtin .len, args := #[.tmp t2], argTypes := #[ty] }, y2, q2, e2, none⟩, ⟨some t4, .call { callee := .value (.func fn), args := #[.tmp t1, .tmp t3], argTypes := us }, y3, q3, e3, none⟩, ⟨some 1, .assign (.tmp t4), y4, q4, e4, none⟩] false)
      (PrL x oa n cap M) enc := by
  simp only [List.nodup_cons, List.mem_cons, List.not_mem_nil, or_false, not_or, List.nodup_nil, and_true, not_false_eq_true] at hnd; simp only [List.mem_cons, List.not_mem_nil, or_false, forall_eq_or_imp, forall_eq, Fre] at hfr
  intro a w base v bs hwk hv hown hb hpre hlim
  have hN := hwk.1
  obtain ⟨g1, hM⟩ := hpre
  refine wp_reg ?_
  refine wl_move ?_
  refine wl_move ?_
  simp only [eval_tmp, eval_const, eval_func, get_put_self, get_put_ne, get_put_ne', ne_eq, size_put, hN, hnd, hfr, not_false_eq_true, hv, g1]
  refine wl_len hty (by simp only [eval_tmp, eval_const, eval_func, get_put_self, get_put_ne, get_put_ne', ne_eq, size_put, hN, hnd, hfr, not_false_eq_true, isS]) ?_
  simp only [eval_tmp, eval_const, eval_func, get_put_self, get_put_ne, get_put_ne', ne_eq, size_put, hN, hnd, hfr, not_false_eq_true, lenV]
  refine wl_callApp hen hc (by simp only [List.map_toArray, List.map_cons, List.map_nil]; simp only [eval_tmp, eval_const, eval_func, get_put_self, get_put_ne, get_put_ne', ne_eq, size_put, hN, hnd, hfr, not_false_eq_true]) hown hlim hb trivial ?_
  intro v1 w1 happ
  refine wl_assign ?_
  simp only [eval_tmp, eval_const, eval_func, get_put_self, get_put_ne, get_put_ne', ne_eq, size_put, hN, hnd, hfr, not_false_eq_true]
  refine wl_nil ⟨?_, ?_⟩
  · ((repeat (with_reducible refine Keeps.put ?_ (by simp only [hfr, not_false_eq_true]) _)); with_reducible exact Keeps.refl _ _)
  · simp only [eval_tmp, eval_const, eval_func, get_put_self, get_put_ne, get_put_ne', ne_eq, size_put, hN, hnd, hfr, not_false_eq_true]
    exact happ
theorem wl_anlen {x t1 t2 t3 t4 t5 t6 ty n cap i j : Nat} {oa : Option Addr} {M : World → Nat → Prop} {enc : Bs} {fn : FuncId} {us : Array TypeId} (hty : slB Tryd.prog ty = true) (hen : Enters Tryd.prog fn)
    (hc : AppC fn [.int .i64 n, .bool oa.isNone] enc (fun _ => True)) (hfr : ∀ d ∈ [1, t1, t2, t3, t4, t5, t6], Fre E m k d) (hnd : [1, x, t1, t2, t3, t4, t5, t6].Nodup) :
    WrC E m k (.region r0 #[⟨some t1, .move (.tmp 1), y0, q0, e0, none⟩, ⟨some t2, .move (.tmp x), y1, q1, e1, none⟩, ⟨some t3, .call { callee := .builtin .len, args := #[.tmp t2], argTypes := #[ty] }, y2, q2, e2, none⟩, ⟨some t4, .move (.tmp x), y3, q3, e3, none⟩,
      ⟨some t5, .binOp .eql ty (.tmp t4) (.const (.slice none i j)) ty, y4, q4, e4, none⟩, ⟨some t6, .call { callee := .value (.func fn), args := #[.tmp t1, .tmp t3, .tmp t5], argTypes := us }, y5, q5, e5, none⟩, ⟨some 1, .assign (.tmp t6), y6, q6, e6, none⟩] false)
      (PrL x oa n cap M) enc := by
  simp only [List.nodup_cons, List.mem_cons, List.not_mem_nil, or_false, not_or, List.nodup_nil, and_true, not_false_eq_true] at hnd; simp only [List.mem_cons, List.not_mem_nil, or_false, forall_eq_or_imp, forall_eq, Fre] at hfr
  intro a w base v bs hwk hv hown hb hpre hlim
  have hN := hwk.1
  obtain ⟨g1, hM⟩ := hpre
  refine wp_reg ?_
  refine wl_move ?_
  refine wl_move ?_
  simp only [eval_tmp, eval_const, eval_func, get_put_self, get_put_ne, get_put_ne', ne_eq, size_put, hN, hnd, hfr, not_false_eq_true, hv, g1]
  refine wl_len hty (by simp only [eval_tmp, eval_const, eval_func, get_put_self, get_put_ne, get_put_ne', ne_eq, size_put, hN, hnd, hfr, not_false_eq_true, isS]) ?_
  simp only [eval_tmp, eval_const, eval_func, get_put_self, get_put_ne, get_put_ne', ne_eq, size_put, hN, hnd, hfr, not_false_eq_true, lenV]
  refine wl_move ?_
  simp only [eval_tmp, eval_const, eval_func, get_put_self, get_put_ne, get_put_ne', ne_eq, size_put, hN, hnd, hfr, not_false_eq_true, g1]
  refine wl_eqlNilS hty (by simp only [eval_tmp, eval_const, eval_func, get_put_self, get_put_ne, get_put_ne', ne_eq, size_put, hN, hnd, hfr, not_false_eq_true, isS]) ?_
  simp only [eval_tmp, eval_const, eval_func, get_put_self, get_put_ne, get_put_ne', ne_eq, size_put, hN, hnd, hfr, not_false_eq_true, isNilS]
  refine wl_callApp hen hc (by simp only [List.map_toArray, List.map_cons, List.map_nil]; simp only [eval_tmp, eval_const, eval_func, get_put_self, get_put_ne, get_put_ne', ne_eq, size_put, hN, hnd, hfr, not_false_eq_true]) hown hlim hb trivial ?_
  intro v1 w1 happ
  refine wl_assign ?_
  simp only [eval_tmp, eval_const, eval_func, get_put_self, get_put_ne, get_put_ne', ne_eq, size_put, hN, hnd, hfr, not_false_eq_true]
  refine wl_nil ⟨?_, ?_⟩
  · ((repeat (with_reducible refine Keeps.put ?_ (by simp only [hfr, not_false_eq_true]) _)); with_reducible exact Keeps.refl _ _)
  · simp only [eval_tmp, eval_const, eval_func, get_put_self, get_put_ne, get_put_ne', ne_eq, size_put, hN, hnd, hfr, not_false_eq_true]
    exact happ
theorem PrL.put {x : Nat} {oa : Option Addr} {n cap : Nat} {M : World → Nat → Prop} {t : Nat} (h : t ≠ x) : ∀ a w base v, PrL x oa n cap M a w base → PrL x oa n cap M (a.put (some t) v) w base :=
  fun _ _ _ _ ⟨h1, h2⟩ => ⟨(get_put_ne h).trans h1, h2⟩
theorem wv_ver {t1 t2 u : Nat} {ca cb : Code} {n : Int} {pre : Act → World → Nat → Prop} {enc : Bs}
    (ha : n ≤ E.ver → WrC E m k ca pre enc) (hb' : ¬ n ≤ E.ver → WrC E m k cb pre enc) (hp : ∀ a w base v, pre a w base → pre (a.put (some t1) v) w base) (hp2 : ∀ a w base v, pre a w base → pre (a.put (some t2) v) w base)
    (hsl : E.safe m k ∧ Fre E m k t1 ∧ Fre E m k t2 ∧ t1 ≠ 1 ∧ t2 ≠ 1) :
    WrC E m k (.seq (.region r0 #[⟨some t1, .move (.tmp E.sV), y0, q0, e0, none⟩, ⟨some t2, .binOp .geq u (.tmp t1) (.const (.int .i16 n)) u, y1, q1, e1, none⟩] false) (.cond (.tmp t2) ca cb)) pre enc := by
  obtain ⟨hE, f1, f2, n1, n2⟩ := hsl
  intro a w base v bs hok hv hown hb hpre hlim
  refine wp_seq_k fun K hK => ?_
  refine wp_reg ?_
  refine wl_move ?_
  rw [eval_tmp, hok.2.2.1]
  have hx : (a.put (some t1) (.int .i16 E.ver)).eval (.tmp t1) = .int .i16 E.ver := by rw [eval_tmp, get_put_self (by rw [hok.1]; exact f1.2)]
  refine wl_geq (by rw [hx]; rfl) ?_
  rw [hx]
  simp only [eval_const, cmp2]
  refine wl_nil (hK _ _ ?_)
  have hkp : Keeps (WS m E.T k) a ((a.put (some t1) (.int .i16 E.ver)).put (some t2) (.bool (decide (n ≤ E.ver)))) := ((Keeps.refl _ _).put f1.1 _).put f2.1 _
  have hev : ((a.put (some t1) (.int .i16 E.ver)).put (some t2) (.bool (decide (n ≤ E.ver)))).eval (.tmp t2) = .bool (decide (n ≤ E.ver)) := by rw [eval_tmp, get_put_self (by rw [size_put, hok.1]; exact f2.2)]
  by_cases hc : n ≤ E.ver
  · rw [decide_eq_true hc] at hev hkp ⊢
    exact wp_cond_true hev (wr_go (Nat.le_refl _) (Nat.le_refl _) hE (ha hc) hok hv hown hb hlim hkp ((get_put_ne n2).trans (get_put_ne n1)) (hp2 _ _ _ _ (hp _ _ _ _ hpre)))
  · rw [decide_eq_false hc] at hev hkp ⊢
    exact wp_cond_false hev (wr_go (Nat.le_refl _) (Nat.le_refl _) hE (hb' hc) hok hv hown hb hlim hkp ((get_put_ne n2).trans (get_put_ne n1)) (hp2 _ _ _ _ (hp _ _ _ _ hpre)))
def encAtS (enc : S → Bs) (l : List D) (i : Nat) : Bs := match l[i]? with | some (.struct ds tags) => enc ⟨ds, tags⟩ | _ => []
theorem flat_encAtS (enc : S → Bs) : ∀ (l : List D), (List.range l.length).flatMap (encAtS enc l) = l.flatMap fun x => match x with | .struct ds tags => enc ⟨ds, tags⟩ | _ => []
  | l => by
    have h : ∀ (r : List D) (p : List D), l = p ++ r → (List.range' p.length r.length).flatMap (encAtS enc l) = r.flatMap fun x => match x with | .struct ds tags => enc ⟨ds, tags⟩ | _ => [] := by
      intro r
      induction r with
      | nil => intro p _; simp
      | cons x r ih =>
        intro p hp
        have := ih (p ++ [x]) (by simp [hp])
        rw [List.length_append, List.length_singleton] at this
        rw [List.length_cons, List.range'_succ, List.flatMap_cons, this, List.flatMap_cons]
        congr 1
        simp only [encAtS, hp, List.getElem?_append_right (Nat.le_refl _), Nat.sub_self, List.getElem?_cons_zero]
        cases x <;> rfl
    have := h l [] rfl
    rw [List.range_eq_range']
    simpa using this
def encAtK (enc : D → Bs) (l : List D) (i : Nat) : Bs := match l[i]? with | some x => enc x | none => []
theorem flat_encAtK (enc : D → Bs) : ∀ (l : List D), (List.range l.length).flatMap (encAtK enc l) = l.flatMap enc
  | l => by
    have h : ∀ (r : List D) (p : List D), l = p ++ r → (List.range' p.length r.length).flatMap (encAtK enc l) = r.flatMap enc := by
      intro r
      induction r with
      | nil => intro p _; simp
      | cons x r ih =>
        intro p hp
        have := ih (p ++ [x]) (by simp [hp])
        rw [List.length_append, List.length_singleton] at this
        rw [List.length_cons, List.range'_succ, List.flatMap_cons, this, List.flatMap_cons]
        congr 1
        simp only [encAtK, hp, List.getElem?_append_right (Nat.le_refl _), Nat.sub_self, List.getElem?_cons_zero]
    have := h l [] rfl
    rw [List.range_eq_range']
    simpa using this
theorem wr_elemS {x u2 i y c1 c2 c3 c4 ty sz m' k' j n cap : Nat} {oa : Option Addr} {sub : List Fld} {l : List D} {c : Code} {enc : S → Bs}
    (hty : sliceB Tryd.prog ty sz = true) (hsz : sz = ssz E.fl sub) (hn : n = l.length) (hj : j < n) (h : ∀ s : S, s.d ∈ l → WrC E m' k' c (PrS E y 0 sub s) (enc s))
    (hE : E.safe m k ∧ m ≤ m' ∧ k ≤ k') (hfr : ∀ d ∈ [c1, i, c2, c3, c4, y], Fre E m k d) (hnd : [1, x, u2, c1, i, c2, c3, c4, y].Nodup) :
    WrC E m k (.seq (.region r0 #[⟨some c1, .move (.tmp u2), y0, q0, e0, none⟩, ⟨some i, .assign (.tmp c1), y1, q1, e1, none⟩] false) (.seq (.region r1 #[⟨some c2, .move (.tmp x), y2, q2, e2, none⟩, ⟨some c3, .move (.tmp i), y3, q3, e3, none⟩, ⟨some c4, .indexAddr ty (.tmp c2) (.tmp c3), y4, q4, e4, none⟩, ⟨some y, .assign (.tmp c4), y5, q5, e5, none⟩] false) c))
      (fun a w base => get a u2 = .int .i64 j ∧ PrL x oa n cap (ML E .struct sub l oa) a w base) (encAtS enc l j) := by
  obtain ⟨hE, hm, hk⟩ := hE
  simp only [List.nodup_cons, List.mem_cons, List.not_mem_nil, or_false, not_or, List.nodup_nil, and_true, not_false_eq_true] at hnd; simp only [List.mem_cons, List.not_mem_nil, or_false, forall_eq_or_imp, forall_eq, Fre] at hfr
  intro a w base v bs hwk hv hown hb hpre hlim
  have hN := hwk.1
  obtain ⟨g2, g1, hM⟩ := hpre
  subst hn
  have hx : l[j]? = some l[j] := by simp [hj]
  rcases hM with h0 | ⟨b, cs, T, rfl, hbb, hbk, hlen, hel⟩
  · rw [h0] at hj; cases hj
  obtain ⟨s, hs, v1, v2, e1, e2, e3⟩ := hel j _ hx
  have he : encAtS enc l j = enc s := by unfold encAtS; rw [hx, hs]; rfl
  rw [he] at hlim ⊢
  refine wp_seq_k fun K hK => ?_
  refine wp_reg ?_
  refine wl_move ?_
  simp only [eval_tmp, eval_const, eval_func, get_put_self, get_put_ne, get_put_ne', ne_eq, size_put, hN, hnd, hfr, not_false_eq_true, g2]
  refine wl_assign ?_
  simp only [eval_tmp, eval_const, eval_func, get_put_self, get_put_ne, get_put_ne', ne_eq, size_put, hN, hnd, hfr, not_false_eq_true]
  refine wl_nil (hK _ _ ?_)
  clear hK K
  refine wp_seq_k fun K hK => ?_
  refine wp_reg ?_
  refine wl_move ?_
  simp only [eval_tmp, eval_const, eval_func, get_put_self, get_put_ne, get_put_ne', ne_eq, size_put, hN, hnd, hfr, not_false_eq_true, g1]
  refine wl_move ?_
  simp only [eval_tmp, eval_const, eval_func, get_put_self, get_put_ne, get_put_ne', ne_eq, size_put, hN, hnd, hfr, not_false_eq_true]
  refine wl_indexAddr (b := b) (o := 0) (k := .i64) (i := j) (len := l.length) (cap := cap) hty (by simp only [eval_tmp, eval_const, eval_func, get_put_self, get_put_ne, get_put_ne', ne_eq, size_put, hN, hnd, hfr, not_false_eq_true]) (by simp only [eval_tmp, eval_const, eval_func, get_put_self, get_put_ne, get_put_ne', ne_eq, size_put, hN, hnd, hfr, not_false_eq_true]) hj ?_
  refine wl_assign ?_
  simp only [eval_tmp, eval_const, eval_func, get_put_self, get_put_ne, get_put_ne', ne_eq, size_put, hN, hnd, hfr, not_false_eq_true]
  refine wl_nil (hK _ _ ?_)
  have hmem : s.d ∈ l := by rw [← hs]; exact List.getElem_mem hj
  refine wr_go hm hk hE (h s hmem) hwk hv hown hb hlim (by ((repeat (with_reducible refine Keeps.put ?_ (by simp only [hfr, not_false_eq_true]) _)); with_reducible exact Keeps.refl _ _)) (by simp only [eval_tmp, eval_const, eval_func, get_put_self, get_put_ne, get_put_ne', ne_eq, size_put, hN, hnd, hfr, not_false_eq_true]) ⟨b, 0 + j * sz, by simp only [eval_tmp, eval_const, eval_func, get_put_self, get_put_ne, get_put_ne', ne_eq, size_put, hN, hnd, hfr, not_false_eq_true], ?_, hbb⟩
  refine ⟨cs, T, hbk, ?_, v1, v2, ?_, e2, e3⟩
  · have : (j + 1) * ssz E.fl sub ≤ l.length * ssz E.fl sub := Nat.mul_le_mul_right _ hj
    rw [Nat.add_mul] at this
    rw [hsz]; omega
  · rw [← e1, hsz]; simp
abbrev kf (of : K) : Fld := .mk of 0 (-1) (-1) (-1) 0 .bool []
theorem repF_kf {w : World} {G : Nat → Prop} {fl : Bool} {of : K} {d : D} {vs : List Value} (h1 : of ≠ .struct) (h2 : of ≠ .list) (h : RepK w G of d vs) : RepF w G fl (kf of) d vs := by
  unfold kf
  cases of <;> first | exact absurd rfl h1 | exact absurd rfl h2 | (unfold RepF; exact h) | (unfold RepF; dsimp only; rw [if_pos (by decide)]; exact h)
theorem wr_elemK {x u2 i y c1 c2 c3 c4 c5 ty ty2 m' k' j n cap : Nat} {oa : Option Addr} {of : K} {sub : List Fld} {l : List D} {c : Code} {enc : D → Bs}
    (hty : sliceB Tryd.prog ty 1 = true) (hty2 : scalB Tryd.prog ty2 = true) (hof : of ≠ .struct ∧ of ≠ .list ∧ ksz of = 1) (hn : n = l.length) (hj : j < n) (h : ∀ d, d ∈ l → WrC E m' k' c (PrF E y (kf of) d) (enc d))
    (hE : E.safe m k ∧ m ≤ m' ∧ k ≤ k') (hfr : ∀ d ∈ [c1, i, c2, c3, c4, c5, y], Fre E m k d) (hnd : [1, x, u2, c1, i, c2, c3, c4, c5, y].Nodup) :
    WrC E m k (.seq (.region r0 #[⟨some c1, .move (.tmp u2), y0, q0, e0, none⟩, ⟨some i, .assign (.tmp c1), y1, q1, e1, none⟩] false) (.seq (.region r1 #[⟨some c2, .move (.tmp x), y2, q2, e2, none⟩, ⟨some c3, .move (.tmp i), y3, q3, e3, none⟩, ⟨some c4, .indexAddr ty (.tmp c2) (.tmp c3), y4, q4, e4, none⟩, ⟨some c5, .load ty2 (.tmp c4), y5, q5, e5, none⟩, ⟨some y, .assign (.tmp c5), y6, q6, e6, none⟩] false) c))
      (fun a w base => get a u2 = .int .i64 j ∧ PrL x oa n cap (ML E of sub l oa) a w base) (encAtK enc l j) := by
  obtain ⟨hE, hm, hk⟩ := hE
  simp only [List.nodup_cons, List.mem_cons, List.not_mem_nil, or_false, not_or, List.nodup_nil, and_true, not_false_eq_true] at hnd; simp only [List.mem_cons, List.not_mem_nil, or_false, forall_eq_or_imp, forall_eq, Fre] at hfr
  intro a w base v bs hwk hv hown hb hpre hlim
  have hN := hwk.1
  obtain ⟨g2, g1, hM⟩ := hpre
  subst hn
  have hx : l[j]? = some l[j] := by simp [hj]
  have he : encAtK enc l j = enc l[j] := by unfold encAtK; rw [hx]
  rw [he] at hlim ⊢
  have hM' : ∃ b cs T, oa = some ⟨b, 0, none⟩ ∧ b < base ∧ Blk w b cs T ∧ l.length * ksz of ≤ cs.length ∧ ∀ i x, l[i]? = some x → RepK w (fun g => g < base) of x ((cs.drop (i * ksz of)).take (ksz of)) := by
    rcases hM with h0 | ⟨b, cs, T, h1, h2, h3, h4⟩
    · rw [h0] at hj; cases hj
    · refine ⟨b, cs, T, h1, h2, h3, ?_⟩
      cases of <;> first | exact absurd rfl hof.1 | exact absurd rfl hof.2.1 | exact h4
  obtain ⟨b, cs, T, rfl, hbb, hbk, hlen, hel⟩ := hM'
  have hr := hel j _ hx
  rw [hof.2.2] at hlen hr
  obtain ⟨val, hval, hseg⟩ := seg1 (l := cs) (o := j * 1) (by omega)
  rw [hseg] at hr
  refine wp_seq_k fun K hK => ?_
  refine wp_reg ?_
  refine wl_move ?_
  simp only [eval_tmp, eval_const, eval_func, get_put_self, get_put_ne, get_put_ne', ne_eq, size_put, hN, hnd, hfr, not_false_eq_true, g2]
  refine wl_assign ?_
  simp only [eval_tmp, eval_const, eval_func, get_put_self, get_put_ne, get_put_ne', ne_eq, size_put, hN, hnd, hfr, not_false_eq_true]
  refine wl_nil (hK _ _ ?_)
  clear hK K
  refine wp_seq_k fun K hK => ?_
  refine wp_reg ?_
  refine wl_move ?_
  simp only [eval_tmp, eval_const, eval_func, get_put_self, get_put_ne, get_put_ne', ne_eq, size_put, hN, hnd, hfr, not_false_eq_true, g1]
  refine wl_move ?_
  simp only [eval_tmp, eval_const, eval_func, get_put_self, get_put_ne, get_put_ne', ne_eq, size_put, hN, hnd, hfr, not_false_eq_true]
  refine wl_indexAddr (b := b) (o := 0) (k := .i64) (i := j) (len := l.length) (cap := cap) hty (by simp only [eval_tmp, eval_const, eval_func, get_put_self, get_put_ne, get_put_ne', ne_eq, size_put, hN, hnd, hfr, not_false_eq_true]) (by simp only [eval_tmp, eval_const, eval_func, get_put_self, get_put_ne, get_put_ne', ne_eq, size_put, hN, hnd, hfr, not_false_eq_true]) hj ?_
  refine wl_load (b := b) (o := 0 + j * 1) hty2 (by simp only [eval_tmp, eval_const, eval_func, get_put_self, get_put_ne, get_put_ne', ne_eq, size_put, hN, hnd, hfr, not_false_eq_true]) hbk (v := val) (by rw [Nat.zero_add]; exact hval) ?_
  refine wl_assign ?_
  simp only [eval_tmp, eval_const, eval_func, get_put_self, get_put_ne, get_put_ne', ne_eq, size_put, hN, hnd, hfr, not_false_eq_true]
  refine wl_nil (hK _ _ ?_)
  exact wr_go hm hk hE (h _ (List.getElem_mem hj)) hwk hv hown hb hlim (by ((repeat (with_reducible refine Keeps.put ?_ (by simp only [hfr, not_false_eq_true]) _)); with_reducible exact Keeps.refl _ _)) (by simp only [eval_tmp, eval_const, eval_func, get_put_self, get_put_ne, get_put_ne', ne_eq, size_put, hN, hnd, hfr, not_false_eq_true]) ⟨val, by simp only [eval_tmp, eval_const, eval_func, get_put_self, get_put_ne, get_put_ne', ne_eq, size_put, hN, hnd, hfr, not_false_eq_true], repF_kf hof.1 hof.2.1 hr⟩
theorem wv_conv {x y t m' k' : Nat} {f : Fld} {d : D} {c : Code} {enc : Bs} (h : WrC E m' k' c (PrF E y f d) enc) (hE : E.safe m k ∧ m ≤ m' ∧ k ≤ k') (hfr : ∀ d ∈ [t, y], Fre E m k d) (hnd : [1, x, t, y].Nodup) :
    WrC E m k (.seq (.region r0 #[⟨some t, .move (.tmp x), y0, q0, e0, none⟩, ⟨some y, .assign (.tmp t), y1, q1, e1, none⟩] false) c) (PrF E x f d) enc := by
  obtain ⟨hE, hm, hk⟩ := hE
  simp only [List.nodup_cons, List.mem_cons, List.not_mem_nil, or_false, not_or, List.nodup_nil, and_true, not_false_eq_true] at hnd; simp only [List.mem_cons, List.not_mem_nil, or_false, forall_eq_or_imp, forall_eq, Fre] at hfr
  intro a w base v bs hwk hv hown hb hpre hlim
  have hN := hwk.1
  obtain ⟨val, g1, hr⟩ := hpre
  refine wp_seq_k fun K hK => ?_
  refine wp_reg ?_
  refine wl_move ?_
  simp only [eval_tmp, eval_const, eval_func, get_put_self, get_put_ne, get_put_ne', ne_eq, size_put, hN, hnd, hfr, not_false_eq_true, g1]
  refine wl_assign ?_
  simp only [eval_tmp, eval_const, eval_func, get_put_self, get_put_ne, get_put_ne', ne_eq, size_put, hN, hnd, hfr, not_false_eq_true]
  refine wl_nil (hK _ _ ?_)
  exact wr_go hm hk hE h hwk hv hown hb hlim (by ((repeat (with_reducible refine Keeps.put ?_ (by simp only [hfr, not_false_eq_true]) _)); with_reducible exact Keeps.refl _ _)) (by simp only [eval_tmp, eval_const, eval_func, get_put_self, get_put_ne, get_put_ne', ne_eq, size_put, hN, hnd, hfr, not_false_eq_true]) ⟨val, by simp only [eval_tmp, eval_const, eval_func, get_put_self, get_put_ne, get_put_ne', ne_eq, size_put, hN, hnd, hfr, not_false_eq_true], hr⟩
theorem wr_inner {sS k0 i T idx y t1 t2 t3 m' k' off n : Nat} {fs sub : List Fld} {s s' : S} {a1 a2 a3 a4 a5 : Int} {of : K} {c : Code} {enc : Bs}
    (hf : fs[i]? = some (.mk .struct a1 a2 a3 a4 a5 of sub)) (hnull : a3 < 0) (hd : s.ds[i]? = some s'.d) (hF : fieldB Tryd.prog T idx off n = true) (ho : off = k0 + foff E.fl fs i)
    (h : WrC E m' k' c (PrS E y 0 sub s') enc) (hE : E.safe m k ∧ m ≤ m' ∧ k ≤ k') (hfr : ∀ d ∈ [t1, t2, t3, y], Fre E m k d) (hnd : [1, sS, t1, t2, t3, y].Nodup) :
    WrC E m k (.seq (.region r0 #[⟨some t1, .move (.tmp sS), y0, q0, e0, none⟩, ⟨some t2, .nilCheck (.tmp t1), y1, q1, e1, none⟩, ⟨some t3, .fieldAddr T (.tmp t2) idx, y2, q2, e2, none⟩, ⟨some y, .assign (.tmp t3), y3, q3, e3, none⟩] false) c) (PrS E sS k0 fs s) enc := by
  obtain ⟨hE, hm, hk⟩ := hE
  simp only [List.nodup_cons, List.mem_cons, List.not_mem_nil, or_false, not_or, List.nodup_nil, and_true, not_false_eq_true] at hnd; simp only [List.mem_cons, List.not_mem_nil, or_false, forall_eq_or_imp, forall_eq, Fre] at hfr
  intro a w base v bs hwk hv hown hb hpre hlim
  have hN := hwk.1
  obtain ⟨B, p, g1, hat, hB⟩ := hpre
  obtain ⟨d', cs, Tb, k1, k2, k3, k4⟩ := hat.field hf
  rw [hd] at k1
  have hfz : fsz E.fl (.mk .struct a1 a2 a3 a4 a5 of sub) = ssz E.fl sub := by simp [fsz, hnull, ssz]
  rw [hfz] at k3 k4
  unfold RepF at k4
  dsimp only at k4
  rw [if_pos hnull] at k4
  obtain ⟨s2, e1, v1, v2, e2, e3, e4⟩ := k4
  have es : s2 = s' := by
    cases s2; cases s'
    rw [e1] at k1
    simp [S.d] at k1
    simp [k1]
  subst es
  refine wp_seq_k fun K hK => ?_
  refine wp_reg ?_
  refine wl_move ?_
  simp only [eval_tmp, eval_const, eval_func, get_put_self, get_put_ne, get_put_ne', ne_eq, size_put, hN, hnd, hfr, not_false_eq_true, g1]
  refine wl_nilCheck (p := ⟨B, p, none⟩) (by simp only [eval_tmp, eval_const, eval_func, get_put_self, get_put_ne, get_put_ne', ne_eq, size_put, hN, hnd, hfr, not_false_eq_true]) ?_
  refine wl_fieldAddr (b := B) (o := p) hF (by simp only [eval_tmp, eval_const, eval_func, get_put_self, get_put_ne, get_put_ne', ne_eq, size_put, hN, hnd, hfr, not_false_eq_true]) ?_
  refine wl_assign ?_
  simp only [eval_tmp, eval_const, eval_func, get_put_self, get_put_ne, get_put_ne', ne_eq, size_put, hN, hnd, hfr, not_false_eq_true]
  refine wl_nil (hK _ _ ?_)
  refine wr_go hm hk hE h hwk hv hown hb hlim (by ((repeat (with_reducible refine Keeps.put ?_ (by simp only [hfr, not_false_eq_true]) _)); with_reducible exact Keeps.refl _ _)) (by simp only [eval_tmp, eval_const, eval_func, get_put_self, get_put_ne, get_put_ne', ne_eq, size_put, hN, hnd, hfr, not_false_eq_true]) ⟨B, p + off, by simp only [eval_tmp, eval_const, eval_func, get_put_self, get_put_ne, get_put_ne', ne_eq, size_put, hN, hnd, hfr, not_false_eq_true], ⟨cs, Tb, k2, by omega, v1, v2, ?_, e3, e4⟩, hB⟩
  rw [← e2]; congr 2; omega
theorem wr_uuid {sS k0 i T idx x t1 t2 t3 t4 u1 u2 u3 ty off n : Nat} {us : Array TypeId} {fs : List Fld} {s : S} {a1 a2 a3 a4 a5 : Int} {of : K} {sub : List Fld} {l : Bs} {z : Value} {fn : FuncId}
    (hf : fs[i]? = some (.mk .uuid a1 a2 a3 a4 a5 of sub)) (hd : s.ds[i]? = some (.uuid l)) (hF : fieldB Tryd.prog T idx off n = true) (ho : off = k0 + foff E.fl fs i)
    (hty : aggB Tryd.prog ty = true ∧ sizeB Tryd.prog ty 16 = true) (hz : zeroB Tryd.prog ty z) (hzs : z.cells.size = 16) (hen : Enters Tryd.prog fn) (hc : ∀ l : Bs, l.length = 16 → AppC fn [.agg (l.map byteV).toArray] l (fun _ => True))
    (hfr : ∀ d ∈ [1, t1, t2, t3, t4, x, u1, u2, u3], Fre E m k d) (hnd : [1, sS, t1, t2, t3, t4, x, u1, u2, u3].Nodup) :
    WrC E m k (.seq (.region r0 #[⟨some t1, .move (.tmp sS), y0, q0, e0, none⟩, ⟨some t2, .nilCheck (.tmp t1), y1, q1, e1, none⟩, ⟨some t3, .fieldAddr T (.tmp t2) idx, y2, q2, e2, none⟩, ⟨some t4, .load ty (.tmp t3), y3, q3, e3, none⟩, ⟨some x, .alloc ty, y4, q4, e4, none⟩, ⟨none, .store ty (.tmp x) (.tmp t4), y5, q5, e5, none⟩] false)
      (.region r1 #[⟨some u1, .move (.tmp 1), y6, q6, e6, none⟩, ⟨some u2, .load ty (.tmp x), y7, q7, e7, none⟩, ⟨some u3, .call { callee := .value (.func fn), args := #[.tmp u1, .tmp u2], argTypes := us }, y8, q8, e8, none⟩, ⟨some 1, .assign (.tmp u3), y9, q9, e9, none⟩] false)) (PrS E sS k0 fs s) l := by
  simp only [List.nodup_cons, List.mem_cons, List.not_mem_nil, or_false, not_or, List.nodup_nil, and_true, not_false_eq_true] at hnd; simp only [List.mem_cons, List.not_mem_nil, or_false, forall_eq_or_imp, forall_eq, Fre] at hfr
  intro a w base v bs hwk hv hown hb hpre hlim
  have hN := hwk.1
  obtain ⟨B, p, g1, hat, hB⟩ := hpre
  obtain ⟨d', cs, Tb, k1, k2, k3, k4⟩ := hat.field hf
  rw [hd] at k1
  cases k1
  have hfz : fsz E.fl (.mk .uuid a1 a2 a3 a4 a5 of sub) = 16 := by simp [fsz, ksz]
  rw [hfz] at k3 k4
  unfold RepF at k4
  obtain ⟨hl, hvs⟩ := k4
  refine wp_seq_k fun K hK => ?_
  refine wp_reg ?_
  refine wl_move ?_
  simp only [eval_tmp, eval_const, eval_func, get_put_self, get_put_ne, get_put_ne', ne_eq, size_put, hN, hnd, hfr, not_false_eq_true, g1]
  refine wl_nilCheck (p := ⟨B, p, none⟩) (by simp only [eval_tmp, eval_const, eval_func, get_put_self, get_put_ne, get_put_ne', ne_eq, size_put, hN, hnd, hfr, not_false_eq_true]) ?_
  refine wl_fieldAddr (b := B) (o := p) hF (by simp only [eval_tmp, eval_const, eval_func, get_put_self, get_put_ne, get_put_ne', ne_eq, size_put, hN, hnd, hfr, not_false_eq_true]) ?_
  refine wl_loadAgg (b := B) (o := p + off) hty.1 hty.2 (by simp only [eval_tmp, eval_const, eval_func, get_put_self, get_put_ne, get_put_ne', ne_eq, size_put, hN, hnd, hfr, not_false_eq_true]) k2 (by omega) ?_
  rw [show p + off = p + k0 + foff E.fl fs i by omega, hvs]
  refine wl_alloc hz ?_
  have hb1 : Blk (w.alloc (.cells z.cells ty)) w.heap.size z.cells.toList ty := Blk.newA _ _ _
  have hc1 : Chg (fun _ => False) w (w.alloc (.cells z.cells ty)) := Chg.alloc _ _ _
  refine wl_store (b := w.heap.size) (o := 0) (v := .agg (l.map byteV).toArray) hty.2 (by simp only [eval_tmp, eval_const, eval_func, get_put_self, get_put_ne, get_put_ne', ne_eq, size_put, hN, hnd, hfr, not_false_eq_true]) (by simp only [eval_tmp, eval_const, eval_func, get_put_self, get_put_ne, get_put_ne', ne_eq, size_put, hN, hnd, hfr, not_false_eq_true]) hb1 (by simp [Value.cells, hl]) (by simp only [Value.cells]; exact byteV_one l) (by rw [Array.length_toList, hzs]; omega) ?_
  intro w1 hb2 hc2
  rw [put_none]
  have hsp : splice z.cells.toList 0 (Value.agg (l.map byteV).toArray).cells.toList = l.map byteV := by
    have e : (Value.agg (l.map byteV).toArray).cells.toList = l.map byteV := rfl
    rw [e]
    simp only [splice, List.take_zero, List.nil_append, Nat.zero_add]
    rw [List.drop_of_length_le (by rw [List.length_map, hl, Array.length_toList, hzs]; exact Nat.le_refl _), List.append_nil]
  rw [hsp] at hb2
  have hc3 : Chg (fun g => g = w.heap.size) w w1 := (hc1.mono (Y := fun g => g = w.heap.size) fun _ _ h => h.elim).trans hc2 fun _ _ h => h
  have hc4 : Chg (fun _ => False) w w1 := hc3.mono fun n hn h => by omega
  refine wl_nil (hK _ _ ?_)
  clear hK K
  refine wp_reg ?_
  refine wl_move ?_
  simp only [eval_tmp, eval_const, eval_func, get_put_self, get_put_ne, get_put_ne', ne_eq, size_put, hN, hnd, hfr, not_false_eq_true, hv]
  refine wl_loadAgg (b := w.heap.size) (o := 0) hty.1 hty.2 (by simp only [eval_tmp, eval_const, eval_func, get_put_self, get_put_ne, get_put_ne', ne_eq, size_put, hN, hnd, hfr, not_false_eq_true]) hb2 (by simp [hl]) ?_
  have hld : (((l.map byteV).drop 0).take 16) = l.map byteV := by rw [List.drop_zero, List.take_of_length_le (by simp [hl])]
  rw [hld]
  refine wl_callApp hen (hc l hl) (by simp only [List.map_toArray, List.map_cons, List.map_nil]; simp only [eval_tmp, eval_const, eval_func, get_put_self, get_put_ne, get_put_ne', ne_eq, size_put, hN, hnd, hfr, not_false_eq_true]) (hown.chg hc4 fun _ _ h => h) hlim (Nat.le_trans hb hc4.size) trivial ?_
  intro v1 w2 happ
  refine wl_assign ?_
  simp only [eval_tmp, eval_const, eval_func, get_put_self, get_put_ne, get_put_ne', ne_eq, size_put, hN, hnd, hfr, not_false_eq_true]
  refine wl_nil ⟨?_, ?_⟩
  · ((repeat (with_reducible refine Keeps.put ?_ (by simp only [hfr, not_false_eq_true]) _)); with_reducible exact Keeps.refl _ _)
  · simp only [eval_tmp, eval_const, eval_func, get_put_self, get_put_ne, get_put_ne', ne_eq, size_put, hN, hnd, hfr, not_false_eq_true]
    refine ⟨happ.own, (hc4.mono fun _ _ h => h.elim).trans happ.chg fun _ _ h => h, ?_⟩
    rcases happ.blk with h | ⟨g, h1, h2⟩
    · exact .inl h
    · exact .inr ⟨g, h1, Nat.le_trans hc4.size h2⟩
end
end Go.Proofs.YtgjnllebnkjofaaDoor
namespace Go.Proofs.YtgjnllebnkjofaaDoor
set_option linter.all false
open Go.RowKit
set_option maxRecDepth 10000
def fEnc (E : WEnv) (f : Fld) (d : D) : Bs := if decide (f.tag < 0) && f.has E.ver then encF E.flex E.ver f d else []
def slotB (N T m k sV sF : Nat) (fl : Bool) (wr rd : List Nat) : Bool :=
  decide (((sV < m ∧ sV ≠ 1) ∨ (T ≤ sV ∧ sV < k)) ∧ (fl = true → ((sF < m ∧ sF ≠ 1) ∨ (T ≤ sF ∧ sF < k)))) &&
  wr.all (fun d => decide (¬ ((d < m ∧ d ≠ 1) ∨ (T ≤ d ∧ d < k)) ∧ d < N)) && rd.all (fun d => decide ((d < m ∧ d ≠ 1) ∨ (T ≤ d ∧ d < k))) && decide ((1 :: (rd ++ wr)).Nodup) && decide (1 < T) && decide (1 < N)
abbrev WEnv.sl (E : WEnv) (m k : Nat) (wr rd : List Nat) : Bool := slotB E.N E.T m k E.sV E.sF E.fl wr rd
section
variable {E : WEnv} {m k : Nat} {y0 y1 y2 y3 y4 y5 y6 y7 y8 y9 y10 y11 y12 y13 y14 y15 y16 y17 y18 y19 y20 y21 y22 y23 y24 y25 y26 y27 y28 y29 y30 y31 y32 y33 y34 y35 y36 y37 y38 y39 : TypeId} {q0 q1 q2 q3 q4 q5 q6 q7 q8 q9 q10 q11 q12 q13 q14 q15 q16 q17 q18 q19 q20 q21 q22 q23 q24 q25 q26 q27 q28 q29 q30 q31 q32 q33 q34 q35 q36 q37 q38 q39 : String} {e0 e1 e2 e3 e4 e5 e6 e7 e8 e9 e10 e11 e12 e13 e14 e15 e16 e17 e18 e19 e20 e21 e22 e23 e24 e25 e26 e27 e28 e29 e30 e31 e32 e33 e34 e35 e36 e37 e38 e39 : Array Edge} {r0 r1 r2 r3 r4 r5 : Nat}
theorem sl_out {wr rd : List Nat} (h : E.sl m k wr rd = true) : E.safe m k ∧ (∀ d ∈ 1 :: wr, Fre E m k d) ∧ (∀ d ∈ rd, WS m E.T k d) ∧ (1 :: (rd ++ wr)).Nodup := by
  unfold WEnv.sl slotB at h
  simp only [Bool.and_eq_true, decide_eq_true_eq, List.all_eq_true] at h
  obtain ⟨⟨⟨⟨⟨⟨h1, h2⟩, h3⟩, h4⟩, h5⟩, h6⟩, h7⟩ := h
  refine ⟨⟨h1, h2⟩, fun d hd => ?_, fun d hd => h4 d hd, h5⟩
  rcases List.mem_cons.1 hd with rfl | hd
  · exact ⟨by unfold WS; omega, h7⟩
  · exact h3 d hd
theorem WS_one (m T k : Nat) (hT : 1 < T) : ¬ WS m T k 1 := by unfold WS; omega
def fTail (E : WEnv) (fs : List Fld) (s : S) (i : Nat) (tl : Bs) : Bs := encL E.flex E.ver (fs.drop i) (s.ds.drop i) ++ tl
theorem fTail_step {fs : List Fld} {s : S} {i : Nat} {tl : Bs} {f : Fld} {d : D} (hf : fs[i]? = some f) (hd : s.ds[i]? = some d) : fTail E fs s i tl = fEnc E f d ++ fTail E fs s (i + 1) tl := by
  unfold fTail fEnc
  have h1 := (List.getElem?_eq_some_iff.1 hf)
  have h2 := (List.getElem?_eq_some_iff.1 hd)
  obtain ⟨h1, e1⟩ := h1
  obtain ⟨h2, e2⟩ := h2
  rw [List.drop_eq_getElem_cons h1, List.drop_eq_getElem_cons h2, e1, e2]
  rw [encL, List.append_assoc]
theorem fTail_end {fs : List Fld} {s : S} {i : Nat} {tl : Bs} (h : fs.length ≤ i) : fTail E fs s i tl = tl := by
  unfold fTail
  rw [List.drop_of_length_le h]
  rfl
theorem PrS.at_d {sS k0 i : Nat} {fs : List Fld} {s : S} {f : Fld} {a : Act} {w : World} {base : Nat} (h : PrS E sS k0 fs s a w base) (hf : fs[i]? = some f) : ∃ d, s.ds[i]? = some d := by
  obtain ⟨B, p, _, h2, _⟩ := h
  obtain ⟨d, _, _, h3, _⟩ := h2.field hf
  exact ⟨d, h3⟩
theorem wr_next {sS k0 i : Nat} {fs : List Fld} {s : S} {f : Fld} {tl : Bs} {c1 c2 : Code} (hf : fs[i]? = some f) (hsl : E.sl m k [] [sS] = true)
    (h1 : ∀ d, s.ds[i]? = some d → WrC E m k c1 (PrS E sS k0 fs s) (fEnc E f d)) (h2 : WrC E m k c2 (PrS E sS k0 fs s) (fTail E fs s (i + 1) tl)) :
    WrC E m k (.seq c1 c2) (PrS E sS k0 fs s) (fTail E fs s i tl) := by
  intro a w base v bs hwk hv hown hb hpre hlim
  obtain ⟨d, hd⟩ := hpre.at_d hf
  rw [fTail_step hf hd] at hlim ⊢
  obtain ⟨hE, _, hr, _⟩ := sl_out hsl
  exact wr_seq hE (h1 d hd) h2 (fun _ _ _ h => h) (PrS.stable (hr sS (by simp))) a w base v bs hwk hv hown hb hpre hlim
theorem wr_tagged {sS k0 i : Nat} {fs : List Fld} {s : S} {f : Fld} {tl : Bs} {c : Code} (hf : fs[i]? = some f) (ht : decide (0 ≤ f.tag) = true)
    (h : WrC E m k c (PrS E sS k0 fs s) (fTail E fs s (i + 1) tl)) : WrC E m k c (PrS E sS k0 fs s) (fTail E fs s i tl) := by
  intro a w base v bs hwk hv hown hb hpre hlim
  obtain ⟨d, hd⟩ := hpre.at_d hf
  have e : fEnc E f d = [] := by
    have := of_decide_eq_true ht
    unfold fEnc; rw [if_neg]; simp; omega
  rw [fTail_step hf hd, e, List.nil_append] at hlim ⊢
  exact h a w base v bs hwk hv hown hb hpre hlim
theorem wr_last {sS k0 i : Nat} {fs : List Fld} {s : S} {f : Fld} {c1 : Code} (hf : fs[i]? = some f) (hl : decide (fs.length = i + 1) = true)
    (h1 : ∀ d, s.ds[i]? = some d → WrC E m k c1 (PrS E sS k0 fs s) (fEnc E f d)) : WrC E m k c1 (PrS E sS k0 fs s) (fTail E fs s i []) := by
  intro a w base v bs hwk hv hown hb hpre hlim
  obtain ⟨d, hd⟩ := hpre.at_d hf
  have := of_decide_eq_true hl
  rw [fTail_step hf hd, fTail_end (by omega), List.append_nil] at hlim ⊢
  exact h1 d hd a w base v bs hwk hv hown hb hpre hlim
theorem wr_end {sS k0 i : Nat} {fs : List Fld} {s : S} {tl : Bs} {c : Code} (hl : decide (fs.length ≤ i) = true) (h : WrC E m k c (PrS E sS k0 fs s) tl) : WrC E m k c (PrS E sS k0 fs s) (fTail E fs s i tl) := by
  rw [fTail_end (of_decide_eq_true hl)]; exact h
theorem wf_all {f : Fld} {d : D} {c : Code} {pre : Act → World → Nat → Prop} (hf : (decide (f.tag < 0) && decide (f.from_ ≤ 0) && decide (f.to < 0)) = true) (hv : 0 ≤ E.ver)
    (h : WrC E m k c pre (encF E.flex E.ver f d)) : WrC E m k c pre (fEnc E f d) := by
  simp only [Bool.and_eq_true, decide_eq_true_eq] at hf
  have e : (decide (f.tag < 0) && f.has E.ver) = true := by
    unfold Fld.has
    simp only [Bool.and_eq_true, Bool.or_eq_true, decide_eq_true_eq]
    omega
  unfold fEnc
  rw [if_pos e]; exact h
theorem wf_from {sS k0 t1 t2 u : Nat} {fs : List Fld} {s : S} {f : Fld} {d : D} {n : Int} {c : Code} (hf : (decide (f.tag < 0) && decide (f.from_ = n) && decide (f.to < 0)) = true)
    (hsl : E.sl m k [t1, t2] [sS] = true) (h : n ≤ E.ver → WrC E m k c (PrS E sS k0 fs s) (encF E.flex E.ver f d)) :
    WrC E m k (.seq (.region r0 #[⟨some t1, .move (.tmp E.sV), y0, q0, e0, none⟩, ⟨some t2, .binOp .geq u (.tmp t1) (.const (.int .i16 n)) u, y1, q1, e1, none⟩] false) (.cond (.tmp t2) c .skip)) (PrS E sS k0 fs s) (fEnc E f d) := by
  simp only [Bool.and_eq_true, decide_eq_true_eq] at hf
  have e : fEnc E f d = if n ≤ E.ver then encF E.flex E.ver f d else [] := by
    unfold fEnc Fld.has
    congr 1
    simp only [Bool.and_eq_true, Bool.or_eq_true, decide_eq_true_eq, eq_iff_iff]
    omega
  rw [e]
  obtain ⟨hE, hw, _, hnd⟩ := sl_out hsl
  simp only [List.nodup_cons, List.mem_cons, List.mem_append, List.cons_append, List.nil_append, List.not_mem_nil, or_false, not_or, List.nodup_nil, and_true, not_false_eq_true] at hnd
  exact wr_ifver h (PrS.put (by first | (simp only [hnd, not_false_eq_true, ne_eq]; done) | (intro e; simp [e] at hnd))) (PrS.put (by first | (simp only [hnd, not_false_eq_true, ne_eq]; done) | (intro e; simp [e] at hnd))) ⟨hE, hw t1 (by simp), hw t2 (by simp), (by first | (simp only [hnd, not_false_eq_true, ne_eq]; done) | (intro e; simp [e] at hnd)), (by first | (simp only [hnd, not_false_eq_true, ne_eq]; done) | (intro e; simp [e] at hnd))⟩
theorem wf_range {sS k0 t1 t2 t3 t4 t5 t6 u : Nat} {fs : List Fld} {s : S} {f : Fld} {d : D} {n n2 : Int} {c : Code} (hf : (decide (f.tag < 0) && decide (f.from_ = n) && decide (f.to = n2) && decide (0 ≤ n2)) = true)
    (hsl : E.sl m k [t1, t2, t3, t4, t5, t6] [sS] = true) (h : n ≤ E.ver → E.ver ≤ n2 → WrC E m k c (PrS E sS k0 fs s) (encF E.flex E.ver f d)) :
    WrC E m k (.seq (.region r0 #[⟨some t1, .move (.tmp E.sV), y0, q0, e0, none⟩, ⟨some t2, .binOp .geq u (.tmp t1) (.const (.int .i16 n)) u, y1, q1, e1, none⟩, ⟨some t3, .move (.tmp t2), y2, q2, e2, none⟩, ⟨some t4, .move (.tmp E.sV), y10, q10, e10, some (2, true)⟩, ⟨some t5, .binOp .leq u (.tmp t4) (.const (.int .i16 n2)) u, y11, q11, e11, some (2, true)⟩, ⟨some t6, .pick (.tmp t3) (.tmp t5) (.const (.bool false)), y3, q3, e3, none⟩] false) (.cond (.tmp t6) c .skip)) (PrS E sS k0 fs s) (fEnc E f d) := by
  simp only [Bool.and_eq_true, decide_eq_true_eq] at hf
  have e : fEnc E f d = if n ≤ E.ver ∧ E.ver ≤ n2 then encF E.flex E.ver f d else [] := by
    unfold fEnc Fld.has
    congr 1
    simp only [Bool.and_eq_true, Bool.or_eq_true, decide_eq_true_eq, eq_iff_iff]
    omega
  rw [e]
  obtain ⟨hE, hfr, hrd, hnd⟩ := sl_out hsl
  simp only [List.mem_cons, List.not_mem_nil, or_false, forall_eq_or_imp, forall_eq, Fre] at hrd
  simp only [List.nodup_cons, List.mem_cons, List.mem_append, List.cons_append, List.nil_append, List.not_mem_nil, or_false, not_or, List.nodup_nil, and_true, not_false_eq_true] at hnd
  simp only [List.mem_cons, List.not_mem_nil, or_false, forall_eq_or_imp, forall_eq, Fre] at hfr
  intro a w base v bs hwk hv hown hb hpre hlim
  have hN := hwk.1
  have hsV : ∀ t ∈ [t1, t2, t3, t4, t5, t6], t ≠ E.sV := by
    intro t ht e
    have h1 := hE.1
    simp only [List.mem_cons, List.not_mem_nil, or_false] at ht
    rcases ht with rfl | rfl | rfl | rfl | rfl | rfl <;> simp only [e, h1, not_true_eq_false, false_and, and_false] at hfr
  simp only [List.mem_cons, List.not_mem_nil, or_false, forall_eq_or_imp, forall_eq] at hsV
  refine wp_seq_k fun K hK => ?_
  refine wp_reg ?_
  refine wl_move ?_
  rw [eval_tmp, hwk.2.2.1]
  refine wl_geq (by simp only [eval_tmp, eval_const, eval_func, get_put_self, get_put_ne, get_put_ne', ne_eq, size_put, hN, hnd, hfr, not_false_eq_true, sameK, decide_true]) ?_
  simp only [eval_tmp, eval_const, eval_func, get_put_self, get_put_ne, get_put_ne', ne_eq, size_put, hN, hnd, hfr, not_false_eq_true, cmp2]
  refine wl_move ?_
  simp only [eval_tmp, eval_const, eval_func, get_put_self, get_put_ne, get_put_ne', ne_eq, size_put, hN, hnd, hfr, not_false_eq_true]
  by_cases hc : n ≤ E.ver
  · rw [decide_eq_true hc]
    refine wl_gyesB rfl rfl (by simp only [eval_tmp, eval_const, eval_func, get_put_self, get_put_ne, get_put_ne', ne_eq, size_put, hN, hnd, hfr, not_false_eq_true]) ?_
    refine wl_move ?_
    simp only [eval_tmp, eval_const, eval_func, get_put_self, get_put_ne, get_put_ne', ne_eq, size_put, hN, hnd, hfr, not_false_eq_true, hsV, hwk.2.2.1]
    refine wl_gyesB rfl rfl (by simp only [eval_tmp, eval_const, eval_func, get_put_self, get_put_ne, get_put_ne', ne_eq, size_put, hN, hnd, hfr, not_false_eq_true]) ?_
    refine wl_leq (by simp only [eval_tmp, eval_const, eval_func, get_put_self, get_put_ne, get_put_ne', ne_eq, size_put, hN, hnd, hfr, not_false_eq_true, sameK, decide_true]) ?_
    simp only [eval_tmp, eval_const, eval_func, get_put_self, get_put_ne, get_put_ne', ne_eq, size_put, hN, hnd, hfr, not_false_eq_true, cmp2]
    refine wl_pickT (by simp only [eval_tmp, eval_const, eval_func, get_put_self, get_put_ne, get_put_ne', ne_eq, size_put, hN, hnd, hfr, not_false_eq_true]) ?_
    simp only [eval_tmp, eval_const, eval_func, get_put_self, get_put_ne, get_put_ne', ne_eq, size_put, hN, hnd, hfr, not_false_eq_true]
    refine wl_nil (hK _ _ ?_)
    by_cases hc2 : E.ver ≤ n2
    · rw [if_pos ⟨hc, hc2⟩] at hlim ⊢
      rw [decide_eq_true hc2]
      exact wp_cond_true (by simp only [eval_tmp, eval_const, eval_func, get_put_self, get_put_ne, get_put_ne', ne_eq, size_put, hN, hnd, hfr, not_false_eq_true]) (wr_go (Nat.le_refl _) (Nat.le_refl _) hE (h hc hc2) hwk hv hown hb hlim (by ((repeat (with_reducible refine Keeps.put ?_ (by simp only [hfr, not_false_eq_true]) _)); with_reducible exact Keeps.refl _ _)) (by simp only [eval_tmp, eval_const, eval_func, get_put_self, get_put_ne, get_put_ne', ne_eq, size_put, hN, hnd, hfr, not_false_eq_true]) (PrS.put (by first | (simp only [hnd, not_false_eq_true, ne_eq]; done) | (intro e; simp [e] at hnd)) _ _ _ _ (PrS.put (by first | (simp only [hnd, not_false_eq_true, ne_eq]; done) | (intro e; simp [e] at hnd)) _ _ _ _ (PrS.put (by first | (simp only [hnd, not_false_eq_true, ne_eq]; done) | (intro e; simp [e] at hnd)) _ _ _ _ (PrS.put (by first | (simp only [hnd, not_false_eq_true, ne_eq]; done) | (intro e; simp [e] at hnd)) _ _ _ _ (PrS.put (by first | (simp only [hnd, not_false_eq_true, ne_eq]; done) | (intro e; simp [e] at hnd)) _ _ _ _ (PrS.put (by first | (simp only [hnd, not_false_eq_true, ne_eq]; done) | (intro e; simp [e] at hnd)) _ _ _ _ hpre)))))))
    · rw [if_neg (fun h => hc2 h.2)] at hlim ⊢
      rw [decide_eq_false hc2]
      exact wp_cond_false (by simp only [eval_tmp, eval_const, eval_func, get_put_self, get_put_ne, get_put_ne', ne_eq, size_put, hN, hnd, hfr, not_false_eq_true]) (wr_go (Nat.le_refl _) (Nat.le_refl _) hE (wr_skip (pre := fun _ _ _ => True)) hwk hv hown hb hlim (by ((repeat (with_reducible refine Keeps.put ?_ (by simp only [hfr, not_false_eq_true]) _)); with_reducible exact Keeps.refl _ _)) (by simp only [eval_tmp, eval_const, eval_func, get_put_self, get_put_ne, get_put_ne', ne_eq, size_put, hN, hnd, hfr, not_false_eq_true]) trivial)
  · rw [decide_eq_false hc]
    refine wl_gnoB rfl rfl (by simp only [eval_tmp, eval_const, eval_func, get_put_self, get_put_ne, get_put_ne', ne_eq, size_put, hN, hnd, hfr, not_false_eq_true]; rfl) ?_
    refine wl_gnoB rfl rfl (by simp only [eval_tmp, eval_const, eval_func, get_put_self, get_put_ne, get_put_ne', ne_eq, size_put, hN, hnd, hfr, not_false_eq_true]; rfl) ?_
    refine wl_pickF (by simp only [eval_tmp, eval_const, eval_func, get_put_self, get_put_ne, get_put_ne', ne_eq, size_put, hN, hnd, hfr, not_false_eq_true]) ?_
    simp only [eval_tmp, eval_const, eval_func, get_put_self, get_put_ne, get_put_ne', ne_eq, size_put, hN, hnd, hfr, not_false_eq_true]
    refine wl_nil (hK _ _ ?_)
    rw [if_neg (fun h => hc h.1)] at hlim ⊢
    exact wp_cond_false (by simp only [eval_tmp, eval_const, eval_func, get_put_self, get_put_ne, get_put_ne', ne_eq, size_put, hN, hnd, hfr, not_false_eq_true]) (wr_go (Nat.le_refl _) (Nat.le_refl _) hE (wr_skip (pre := fun _ _ _ => True)) hwk hv hown hb hlim (by ((repeat (with_reducible refine Keeps.put ?_ (by simp only [hfr, not_false_eq_true]) _)); with_reducible exact Keeps.refl _ _)) (by simp only [eval_tmp, eval_const, eval_func, get_put_self, get_put_ne, get_put_ne', ne_eq, size_put, hN, hnd, hfr, not_false_eq_true]) trivial)
end
end Go.Proofs.YtgjnllebnkjofaaDoor
namespace Go.Proofs.YtgjnllebnkjofaaDoor
set_option linter.all false
open Go.RowKit
set_option maxRecDepth 10000
section
variable {E : WEnv} {m k : Nat} {y0 y1 y2 y3 y4 y5 y6 y7 y8 y9 y10 y11 y12 y13 y14 y15 y16 y17 y18 y19 y20 y21 y22 y23 y24 y25 y26 y27 y28 y29 y30 y31 y32 y33 y34 y35 y36 y37 y38 y39 : TypeId} {q0 q1 q2 q3 q4 q5 q6 q7 q8 q9 q10 q11 q12 q13 q14 q15 q16 q17 q18 q19 q20 q21 q22 q23 q24 q25 q26 q27 q28 q29 q30 q31 q32 q33 q34 q35 q36 q37 q38 q39 : String} {e0 e1 e2 e3 e4 e5 e6 e7 e8 e9 e10 e11 e12 e13 e14 e15 e16 e17 e18 e19 e20 e21 e22 e23 e24 e25 e26 e27 e28 e29 e30 e31 e32 e33 e34 e35 e36 e37 e38 e39 : Array Edge} {r0 r1 r2 r3 r4 r5 : Nat}
variable {a1 a2 a3 a4 a5 : Int} {of : K} {sub : List Fld} {d : D} {x t1 t2 t3 t4 t5 : Nat} {us : Array TypeId}
theorem wv_callS {f : Fld} {enc : Bs} {fn : FuncId} (hen : Enters Tryd.prog fn)
    (hc : ∀ w base val, RepF w (fun g => g < base) E.fl f d [val] → ∃ pr, AppC fn [val] enc pr ∧ pr w) (hsl : E.sl m k [t1, t2, t3] [x] = true) :
    WrC E m k (.region r0 #[⟨some t1, .move (.tmp 1), y0, q0, e0, none⟩, ⟨some t2, .move (.tmp x), y1, q1, e1, none⟩, ⟨some t3, .call { callee := .value (.func fn), args := #[.tmp t1, .tmp t2], argTypes := us }, y2, q2, e2, none⟩, ⟨some 1, .assign (.tmp t3), y3, q3, e3, none⟩] false) (PrF E x f d) enc := by
  obtain ⟨hE, hfr, hrd, hnd⟩ := sl_out hsl
  have h1 := hfr 1 (by simp)
  simp only [List.nodup_cons, List.mem_cons, List.mem_append, List.cons_append, List.nil_append, List.not_mem_nil, or_false, not_or, List.nodup_nil, and_true, not_false_eq_true] at hnd
  simp only [List.mem_cons, List.not_mem_nil, or_false, forall_eq_or_imp, forall_eq] at hfr
  exact wv_call (x := x) hen hc ⟨hfr.2.1, hfr.2.2.1, hfr.2.2.2, (by first | (simp only [hnd, not_false_eq_true, ne_eq]; done) | (intro e; simp [e] at hnd)), (by first | (simp only [hnd, not_false_eq_true, ne_eq]; done) | (intro e; simp [e] at hnd)), (by first | (simp only [hnd, not_false_eq_true, ne_eq]; done) | (intro e; simp [e] at hnd)), h1.1, h1.2⟩
theorem wv_i16 (hsl : E.sl m k [t1, t2, t3] [x] = true) :
    WrC E m k (.region r0 #[⟨some t1, .move (.tmp 1), y0, q0, e0, none⟩, ⟨some t2, .move (.tmp x), y1, q1, e1, none⟩, ⟨some t3, .call { callee := .value (.func 36), args := #[.tmp t1, .tmp t2], argTypes := us }, y2, q2, e2, none⟩, ⟨some 1, .assign (.tmp t3), y3, q3, e3, none⟩] false)
      (PrF E x (.mk .i16 a1 a2 a3 a4 a5 of sub) d) (encF E.flex E.ver (.mk .i16 a1 a2 a3 a4 a5 of sub) d) := by
  refine wv_callS (fun args w => Tryd.call36 args w) (fun w base val hr => ?_) hsl
  unfold RepF at hr
  dsimp only at hr
  cases d <;> first | exact hr.elim | skip
  simp only [RepK, List.cons.injEq, and_true] at hr
  subst hr
  exact ⟨_, AppendInt16_c _, trivial⟩
theorem wv_i32 (hsl : E.sl m k [t1, t2, t3] [x] = true) :
    WrC E m k (.region r0 #[⟨some t1, .move (.tmp 1), y0, q0, e0, none⟩, ⟨some t2, .move (.tmp x), y1, q1, e1, none⟩, ⟨some t3, .call { callee := .value (.func 51), args := #[.tmp t1, .tmp t2], argTypes := us }, y2, q2, e2, none⟩, ⟨some 1, .assign (.tmp t3), y3, q3, e3, none⟩] false)
      (PrF E x (.mk .i32 a1 a2 a3 a4 a5 of sub) d) (encF E.flex E.ver (.mk .i32 a1 a2 a3 a4 a5 of sub) d) := by
  refine wv_callS (fun args w => Tryd.call51 args w) (fun w base val hr => ?_) hsl
  unfold RepF at hr
  dsimp only at hr
  cases d <;> first | exact hr.elim | skip
  simp only [RepK, List.cons.injEq, and_true] at hr
  subst hr
  exact ⟨_, AppendInt32_c _, trivial⟩
theorem wv_u16 (hsl : E.sl m k [t1, t2, t3] [x] = true) :
    WrC E m k (.region r0 #[⟨some t1, .move (.tmp 1), y0, q0, e0, none⟩, ⟨some t2, .move (.tmp x), y1, q1, e1, none⟩, ⟨some t3, .call { callee := .value (.func 55), args := #[.tmp t1, .tmp t2], argTypes := us }, y2, q2, e2, none⟩, ⟨some 1, .assign (.tmp t3), y3, q3, e3, none⟩] false)
      (PrF E x (.mk .u16 a1 a2 a3 a4 a5 of sub) d) (encF E.flex E.ver (.mk .u16 a1 a2 a3 a4 a5 of sub) d) := by
  refine wv_callS (fun args w => Tryd.call55 args w) (fun w base val hr => ?_) hsl
  unfold RepF at hr
  dsimp only at hr
  cases d <;> first | exact hr.elim | skip
  simp only [RepK, List.cons.injEq, and_true] at hr
  subst hr
  exact ⟨_, AppendUint16_c _, trivial⟩
theorem wv_flexS {t : Nat} {f : Fld} {ca cb : Code} {enc : Bs} (hfl : E.fl = true) (hsl : E.sl m k [t] [x] = true)
    (ha : E.flex = true → WrC E m k ca (PrF E x f d) enc) (hb' : E.flex = false → WrC E m k cb (PrF E x f d) enc) :
    WrC E m k (.seq (.region r0 #[⟨some t, .move (.tmp E.sF), y0, q0, e0, none⟩] false) (.cond (.tmp t) ca cb)) (PrF E x f d) enc := by
  obtain ⟨hE, hfr, hrd, hnd⟩ := sl_out hsl
  simp only [List.nodup_cons, List.mem_cons, List.mem_append, List.cons_append, List.nil_append, List.not_mem_nil, or_false, not_or, List.nodup_nil, and_true, not_false_eq_true] at hnd
  exact wv_flex hfl ha hb' (PrF.put (by first | (simp only [hnd, not_false_eq_true, ne_eq]; done) | (intro e; simp [e] at hnd))) ⟨hE, hfr t (by simp), (by first | (simp only [hnd, not_false_eq_true, ne_eq]; done) | (intro e; simp [e] at hnd))⟩
theorem encF_text (h : a3 < 0) (l : Bs) : encF E.flex E.ver (.mk .text a1 a2 a3 a4 a5 of sub) (.str l) = encStr E.flex l := by
  unfold encF; dsimp only; rw [if_pos h]; rfl
theorem encF_bytes (l : Bs) : encF E.flex E.ver (.mk .bytes a1 a2 a3 a4 a5 of sub) (.bytes l) = encByt E.flex l := rfl
theorem rep_text {w : World} {G : Nat → Prop} {fl : Bool} {val : Value} (h : a3 < 0) (hr : RepF w G fl (.mk .text a1 a2 a3 a4 a5 of sub) d [val]) : ∃ l, d = .str l ∧ val = .string ⟨l.toArray⟩ := by
  unfold RepF at hr
  dsimp only at hr
  rw [if_pos h] at hr
  cases d <;> first | exact hr.elim | skip
  simp only [RepK, List.cons.injEq, and_true] at hr
  exact ⟨_, rfl, hr⟩
theorem wv_string (h : decide (a3 < 0) = true) (hx : E.flex = false) (hsl : E.sl m k [t1, t2, t3] [x] = true) :
    WrC E m k (.region r0 #[⟨some t1, .move (.tmp 1), y0, q0, e0, none⟩, ⟨some t2, .move (.tmp x), y1, q1, e1, none⟩, ⟨some t3, .call { callee := .value (.func 39), args := #[.tmp t1, .tmp t2], argTypes := us }, y2, q2, e2, none⟩, ⟨some 1, .assign (.tmp t3), y3, q3, e3, none⟩] false)
      (PrF E x (.mk .text a1 a2 a3 a4 a5 of sub) d) (encF E.flex E.ver (.mk .text a1 a2 a3 a4 a5 of sub) d) := by
  refine wv_callS (fun args w => Tryd.call39 args w) (fun w base val hr => ?_) hsl
  obtain ⟨l, rfl, rfl⟩ := rep_text (of_decide_eq_true h) hr
  refine ⟨fun _ => True, ?_, trivial⟩
  rw [encF_text (of_decide_eq_true h), hx]
  exact AppendString_c l
theorem rep_bytes {w : World} {G : Nat → Prop} {fl : Bool} {val : Value} (hr : RepF w G fl (.mk .bytes a1 a2 a3 a4 a5 of sub) d [val]) : ∃ l oa cap, d = .bytes l ∧ val = .slice oa l.length cap ∧ BytesAt w G oa l := by
  unfold RepF at hr
  dsimp only at hr
  cases d <;> first | exact hr.elim | skip
  simp only [RepK, List.cons.injEq, and_true] at hr
  obtain ⟨oa, cap, h1, h2⟩ := hr
  exact ⟨_, oa, cap, rfl, h1, h2⟩
theorem rep_ntext {w : World} {G : Nat → Prop} {fl : Bool} {val : Value} (h : 0 ≤ a3) (hr : RepF w G fl (.mk .text a1 a2 a3 a4 a5 of sub) d [val]) :
    (d = .nstr none ∧ val = .pointer none) ∨ ∃ l p, d = .nstr (some l) ∧ val = .pointer (some p) ∧ w.cell? p = some (.string ⟨l.toArray⟩) := by
  unfold RepF at hr
  dsimp only at hr
  rw [if_neg (by omega)] at hr
  split at hr
  · simp only [List.cons.injEq, and_true] at hr; exact .inl ⟨rfl, hr⟩
  · obtain ⟨b, cs, T, h1, h2, h3, h4⟩ := hr
    simp only [List.cons.injEq, and_true] at h1
    refine .inr ⟨_, _, rfl, h1, ?_⟩
    rw [h3.cell]; exact h4
  · exact hr.elim
theorem encF_ntext (h : 0 ≤ a3) (hv : a3 ≤ E.ver) (o : Option Bs) : encF E.flex E.ver (.mk .text a1 a2 a3 a4 a5 of sub) (.nstr o) = encNStr E.flex o := by
  unfold encF; dsimp only; rw [if_neg (by omega), if_neg (by omega)]
theorem encF_otext (h : 0 ≤ a3) (hv : ¬ a3 ≤ E.ver) (o : Option Bs) : encF E.flex E.ver (.mk .text a1 a2 a3 a4 a5 of sub) (.nstr o) = encStr E.flex (o.getD []) := by
  unfold encF; dsimp only; rw [if_neg (by omega), if_pos (by omega)]
theorem wv_otext {T1 T2 vv y u1 u2 u3 u4 u5 u6 ty tyS ty2 : Nat} {n : Int} {c1 c2 : Code} (hn : (decide (0 ≤ a3) && decide (a3 = n)) = true) (hty : ptrB Tryd.prog ty = true) (htyS : scalB Tryd.prog tyS = true)
    (hsl : E.sl m k [T1, T2, vv, y, u1, u2, u3, u4, u5, u6] [x] = true) (hsl2 : E.sl (y + 1) k [] [y] = true) (hm : decide (m ≤ y + 1) = true)
    (h1 : ∀ l, WrC E (y + 1) k c1 (PrF E y (.mk .text a1 a2 (-1) a4 a5 of sub) (.str l)) (encF E.flex E.ver (.mk .text a1 a2 (-1) a4 a5 of sub) (.str l)))
    (h2 : a3 ≤ E.ver → WrC E m k c2 (PrF E x (.mk .text a1 a2 a3 a4 a5 of sub) d) (encF E.flex E.ver (.mk .text a1 a2 a3 a4 a5 of sub) d)) :
    WrC E m k (.seq (.region r0 #[⟨some T1, .move (.tmp E.sV), y0, q0, e0, none⟩, ⟨some T2, .binOp .lss ty2 (.tmp T1) (.const (.int .i16 n)) ty2, y1, q1, e1, none⟩] false)
      (.cond (.tmp T2)
        (.seq (.region r1 #[⟨some vv, .assign (.const (.string ⟨#[]⟩)), y2, q2, e2, none⟩] false)
          (.seq (.seq (.region r2 #[⟨some u1, .move (.tmp x), y3, q3, e3, none⟩, ⟨some u2, .binOp .neq ty (.tmp u1) (.const (.pointer none)) ty, y4, q4, e4, none⟩] false)
              (.cond (.tmp u2) (.region r3 #[⟨some u3, .move (.tmp x), y5, q5, e5, none⟩, ⟨some u4, .nilCheck (.tmp u3), y6, q6, e6, none⟩, ⟨some u5, .load tyS (.tmp u4), y7, q7, e7, none⟩, ⟨some vv, .assign (.tmp u5), y8, q8, e8, none⟩] false) .skip))
            (.seq (.region r4 #[⟨some u6, .move (.tmp vv), y9, q9, e9, none⟩, ⟨some y, .assign (.tmp u6), y10, q10, e10, none⟩] false) c1)))
        c2)) (PrF E x (.mk .text a1 a2 a3 a4 a5 of sub) d) (encF E.flex E.ver (.mk .text a1 a2 a3 a4 a5 of sub) d) := by
  simp only [Bool.and_eq_true, decide_eq_true_eq] at hn
  obtain ⟨hE, hfr, hrd, hnd⟩ := sl_out hsl
  have hsV : ∀ t ∈ [T1, T2, vv, y, u1, u2, u3, u4, u5, u6], t ≠ E.sV := by
    intro t ht e
    have h1 := hE.1
    have := hfr t (List.mem_cons_of_mem _ ht)
    rw [e] at this
    exact this.1 h1
  simp only [List.mem_cons, List.not_mem_nil, or_false, forall_eq_or_imp, forall_eq] at hsV
  simp only [List.nodup_cons, List.mem_cons, List.mem_append, List.cons_append, List.nil_append, List.not_mem_nil, or_false, not_or, List.nodup_nil, and_true, not_false_eq_true] at hnd
  simp only [List.mem_cons, List.not_mem_nil, or_false, forall_eq_or_imp, forall_eq, Fre] at hfr
  intro a w base v bs hwk hv hown hb hpre hlim
  have hN := hwk.1
  obtain ⟨val, g1, hr⟩ := hpre
  refine wp_seq_k fun K hK => ?_
  refine wp_reg ?_
  refine wl_move ?_
  rw [eval_tmp, hwk.2.2.1]
  refine wl_lss (by simp only [eval_tmp, eval_const, eval_func, get_put_self, get_put_ne, get_put_ne', ne_eq, size_put, hN, hnd, hfr, not_false_eq_true, sameK, decide_true]) ?_
  simp only [eval_tmp, eval_const, eval_func, get_put_self, get_put_ne, get_put_ne', ne_eq, size_put, hN, hnd, hfr, not_false_eq_true, cmp2]
  refine wl_nil (hK _ _ ?_)
  clear hK K
  by_cases hc : E.ver < n
  · rw [decide_eq_true hc]
    refine wp_cond_true (by simp only [eval_tmp, eval_const, eval_func, get_put_self, get_put_ne, get_put_ne', ne_eq, size_put, hN, hnd, hfr, not_false_eq_true]) ?_
    refine wp_seq_k fun K hK => ?_
    refine wp_reg ?_
    refine wl_assign ?_
    simp only [eval_tmp, eval_const, eval_func, get_put_self, get_put_ne, get_put_ne', ne_eq, size_put, hN, hnd, hfr, not_false_eq_true]
    refine wl_nil (hK _ _ ?_)
    clear hK K
    refine wp_seq_k fun K hK => ?_
    refine wp_seq_k fun K2 hK2 => ?_
    refine wp_reg ?_
    refine wl_move ?_
    simp only [eval_tmp, eval_const, eval_func, get_put_self, get_put_ne, get_put_ne', ne_eq, size_put, hN, hnd, hfr, not_false_eq_true, g1]
    have hf0 : decide ((-1 : Int) < 0) = true := rfl
    rcases rep_ntext hn.1 hr with ⟨rfl, rfl⟩ | ⟨l, p, rfl, rfl, hcell⟩
    · refine wl_neqNil hty (by simp only [eval_tmp, eval_const, eval_func, get_put_self, get_put_ne, get_put_ne', ne_eq, size_put, hN, hnd, hfr, not_false_eq_true, isP]) ?_
      simp only [eval_tmp, eval_const, eval_func, get_put_self, get_put_ne, get_put_ne', ne_eq, size_put, hN, hnd, hfr, not_false_eq_true, isNilV, notV, Option.isNone_none, Bool.not_true]
      refine wl_nil (hK2 _ _ ?_)
      refine wp_cond_false (by simp only [eval_tmp, eval_const, eval_func, get_put_self, get_put_ne, get_put_ne', ne_eq, size_put, hN, hnd, hfr, not_false_eq_true]) ?_
      refine wp_skip (hK _ _ ?_)
      clear hK K hK2 K2
      refine wp_seq_k fun K hK => ?_
      refine wp_reg ?_
      refine wl_move ?_
      simp only [eval_tmp, eval_const, eval_func, get_put_self, get_put_ne, get_put_ne', ne_eq, size_put, hN, hnd, hfr, not_false_eq_true]
      refine wl_assign ?_
      simp only [eval_tmp, eval_const, eval_func, get_put_self, get_put_ne, get_put_ne', ne_eq, size_put, hN, hnd, hfr, not_false_eq_true]
      refine wl_nil (hK _ _ ?_)
      have e : encF E.flex E.ver (.mk .text a1 a2 a3 a4 a5 of sub) (.nstr none) = encF E.flex E.ver (.mk .text a1 a2 (-1) a4 a5 of sub) (.str []) := by
        rw [encF_otext hn.1 (by omega), encF_text (by decide)]; rfl
      rw [e] at hlim ⊢
      refine wr_go (of_decide_eq_true hm) (Nat.le_refl _) hE (h1 []) hwk hv hown hb hlim (by ((repeat (with_reducible refine Keeps.put ?_ (by simp only [hfr, not_false_eq_true]) _)); with_reducible exact Keeps.refl _ _)) (by simp only [eval_tmp, eval_const, eval_func, get_put_self, get_put_ne, get_put_ne', ne_eq, size_put, hN, hnd, hfr, not_false_eq_true]) ⟨_, by simp only [eval_tmp, eval_const, eval_func, get_put_self, get_put_ne, get_put_ne', ne_eq, size_put, hN, hnd, hfr, not_false_eq_true]; rfl, ?_⟩
      unfold RepF; dsimp only; rw [if_pos (by decide)]; rfl
    · refine wl_neqNil hty (by simp only [eval_tmp, eval_const, eval_func, get_put_self, get_put_ne, get_put_ne', ne_eq, size_put, hN, hnd, hfr, not_false_eq_true, isP]) ?_
      simp only [eval_tmp, eval_const, eval_func, get_put_self, get_put_ne, get_put_ne', ne_eq, size_put, hN, hnd, hfr, not_false_eq_true, isNilV, notV, Option.isNone_some, Bool.not_false]
      refine wl_nil (hK2 _ _ ?_)
      refine wp_cond_true (by simp only [eval_tmp, eval_const, eval_func, get_put_self, get_put_ne, get_put_ne', ne_eq, size_put, hN, hnd, hfr, not_false_eq_true]) ?_
      refine wp_reg ?_
      refine wl_move ?_
      simp only [eval_tmp, eval_const, eval_func, get_put_self, get_put_ne, get_put_ne', ne_eq, size_put, hN, hnd, hfr, not_false_eq_true, g1]
      refine wl_nilCheck (p := p) (by simp only [eval_tmp, eval_const, eval_func, get_put_self, get_put_ne, get_put_ne', ne_eq, size_put, hN, hnd, hfr, not_false_eq_true]) ?_
      refine wl_loadC htyS (by simp only [eval_tmp, eval_const, eval_func, get_put_self, get_put_ne, get_put_ne', ne_eq, size_put, hN, hnd, hfr, not_false_eq_true]) hcell ?_
      refine wl_assign ?_
      simp only [eval_tmp, eval_const, eval_func, get_put_self, get_put_ne, get_put_ne', ne_eq, size_put, hN, hnd, hfr, not_false_eq_true]
      refine wl_nil (hK _ _ ?_)
      clear hK K hK2 K2
      refine wp_seq_k fun K hK => ?_
      refine wp_reg ?_
      refine wl_move ?_
      simp only [eval_tmp, eval_const, eval_func, get_put_self, get_put_ne, get_put_ne', ne_eq, size_put, hN, hnd, hfr, not_false_eq_true]
      refine wl_assign ?_
      simp only [eval_tmp, eval_const, eval_func, get_put_self, get_put_ne, get_put_ne', ne_eq, size_put, hN, hnd, hfr, not_false_eq_true]
      refine wl_nil (hK _ _ ?_)
      have e : encF E.flex E.ver (.mk .text a1 a2 a3 a4 a5 of sub) (.nstr (some l)) = encF E.flex E.ver (.mk .text a1 a2 (-1) a4 a5 of sub) (.str l) := by
        rw [encF_otext hn.1 (by omega), encF_text (by decide)]; rfl
      rw [e] at hlim ⊢
      refine wr_go (of_decide_eq_true hm) (Nat.le_refl _) hE (h1 l) hwk hv hown hb hlim (by ((repeat (with_reducible refine Keeps.put ?_ (by simp only [hfr, not_false_eq_true]) _)); with_reducible exact Keeps.refl _ _)) (by simp only [eval_tmp, eval_const, eval_func, get_put_self, get_put_ne, get_put_ne', ne_eq, size_put, hN, hnd, hfr, not_false_eq_true]) ⟨_, by simp only [eval_tmp, eval_const, eval_func, get_put_self, get_put_ne, get_put_ne', ne_eq, size_put, hN, hnd, hfr, not_false_eq_true]; rfl, ?_⟩
      unfold RepF; dsimp only; rw [if_pos (by decide)]; rfl
  · rw [decide_eq_false hc]
    refine wp_cond_false (by simp only [eval_tmp, eval_const, eval_func, get_put_self, get_put_ne, get_put_ne', ne_eq, size_put, hN, hnd, hfr, not_false_eq_true]) ?_
    exact wr_go (Nat.le_refl _) (Nat.le_refl _) hE (h2 (by omega)) hwk hv hown hb hlim (by ((repeat (with_reducible refine Keeps.put ?_ (by simp only [hfr, not_false_eq_true]) _)); with_reducible exact Keeps.refl _ _)) (by simp only [eval_tmp, eval_const, eval_func, get_put_self, get_put_ne, get_put_ne', ne_eq, size_put, hN, hnd, hfr, not_false_eq_true]) ⟨val, by simp only [eval_tmp, eval_const, eval_func, get_put_self, get_put_ne, get_put_ne', ne_eq, size_put, hN, hnd, hfr, not_false_eq_true, g1], hr⟩
theorem wf_load {sS k0 i T idx ty : Nat} {fs : List Fld} {s : S} {f : Fld} {c : Code} {enc : Bs}
    (hf : fs[i]? = some f) (hd : s.ds[i]? = some d) (hB : (fsz E.fl f == 1 && fieldB Tryd.prog T idx (k0 + foff E.fl fs i) 1 && scalB Tryd.prog ty) = true)
    (hsl : E.sl m k [t1, t2, t3, t4, x] [sS] = true) (hm : decide (m ≤ x + 1) = true) (h : WrC E (x + 1) k c (PrF E x f d) enc) :
    WrC E m k (.seq (.region r0 #[⟨some t1, .move (.tmp sS), y0, q0, e0, none⟩, ⟨some t2, .nilCheck (.tmp t1), y1, q1, e1, none⟩, ⟨some t3, .fieldAddr T (.tmp t2) idx, y2, q2, e2, none⟩, ⟨some t4, .load ty (.tmp t3), y3, q3, e3, none⟩, ⟨some x, .assign (.tmp t4), y4, q4, e4, none⟩] false) c) (PrS E sS k0 fs s) enc := by
  simp only [Bool.and_eq_true, beq_iff_eq] at hB
  obtain ⟨⟨b1, b2⟩, b4⟩ := hB
  obtain ⟨hE, hfr, hrd, hnd⟩ := sl_out hsl
  simp only [List.nodup_cons, List.mem_cons, List.mem_append, List.cons_append, List.nil_append, List.not_mem_nil, or_false, not_or, List.nodup_nil, and_true, not_false_eq_true] at hnd
  simp only [List.mem_cons, List.not_mem_nil, or_false, forall_eq_or_imp, forall_eq] at hfr
  exact wr_field hf hd b1 b2 rfl b4 ⟨hE, of_decide_eq_true hm, Nat.le_refl _, hfr.2.1, hfr.2.2.1, hfr.2.2.2.1, hfr.2.2.2.2.1, hfr.2.2.2.2.2, (by first | (simp only [hnd, not_false_eq_true, ne_eq]; done) | (intro e; simp [e] at hnd)), (by first | (simp only [hnd, not_false_eq_true, ne_eq]; done) | (intro e; simp [e] at hnd)), (by first | (simp only [hnd, not_false_eq_true, ne_eq]; done) | (intro e; simp [e] at hnd)), (by first | (simp only [hnd, not_false_eq_true, ne_eq]; done) | (intro e; simp [e] at hnd)), (by first | (simp only [hnd, not_false_eq_true, ne_eq]; done) | (intro e; simp [e] at hnd))⟩ h
end
end Go.Proofs.YtgjnllebnkjofaaDoor
namespace Go.Proofs.YtgjnllebnkjofaaDoor
set_option linter.all false
open Go.RowKit
set_option maxRecDepth 10000
def tagsEnc (E : WEnv) (fs : List Fld) (s : S) : Bs := if E.flex then encTagsPart (encKnown E.flex E.ver fs s.ds).1 (encKnown E.flex E.ver fs s.ds).2 s.tags else []
def partEnc (E : WEnv) (fs : List Fld) (s : S) : Bs := fTail E fs s 0 (tagsEnc E fs s)
theorem partEnc_eq (E : WEnv) (fs : List Fld) (s : S) : partEnc E fs s = encPart E.flex E.ver fs s := by
  unfold partEnc fTail encPart tagsEnc; simp only [List.drop_zero]
def lenEnc (E : WEnv) (nl : Int) (nil : Bool) (n : Nat) : Bs := if nl < 0 ∨ E.ver < nl then encLen E.flex n else encNLen E.flex nil n
theorem encKnown_none (flex : Bool) (ver : Int) : ∀ (fs : List Fld) (ds : List D), anyTag fs = false → encKnown flex ver fs ds = (0, [])
  | [], _, _ => by simp [encKnown]
  | f :: r, [], _ => by simp [encKnown]
  | f :: r, d :: ds, h => by
    simp only [anyTag, Bool.or_eq_false_iff, decide_eq_false_iff_not] at h
    rw [encKnown, encKnown_none flex ver r ds h.2]
    dsimp only
    rw [if_neg (fun x => h.1 x.1)]
section
variable {E : WEnv} {m k : Nat} {y0 y1 y2 y3 y4 y5 y6 y7 y8 y9 y10 y11 y12 y13 y14 y15 y16 y17 y18 y19 y20 y21 y22 y23 y24 y25 y26 y27 y28 y29 y30 y31 y32 y33 y34 y35 y36 y37 y38 y39 : TypeId} {q0 q1 q2 q3 q4 q5 q6 q7 q8 q9 q10 q11 q12 q13 q14 q15 q16 q17 q18 q19 q20 q21 q22 q23 q24 q25 q26 q27 q28 q29 q30 q31 q32 q33 q34 q35 q36 q37 q38 q39 : String} {e0 e1 e2 e3 e4 e5 e6 e7 e8 e9 e10 e11 e12 e13 e14 e15 e16 e17 e18 e19 e20 e21 e22 e23 e24 e25 e26 e27 e28 e29 e30 e31 e32 e33 e34 e35 e36 e37 e38 e39 : Array Edge} {r0 r1 r2 r3 r4 r5 : Nat}
variable {a1 a2 a3 a4 a5 : Int} {of : K} {sub : List Fld} {d : D} {x t1 t2 t3 t4 t5 t6 : Nat} {us : Array TypeId}
theorem encF_listS (l : List D) (nil : Bool) : encF E.flex E.ver (.mk .list a1 a2 a3 a4 a5 .struct sub) (.arr nil l) = lenEnc E a3 nil l.length ++ (List.range l.length).flatMap (encAtS (partEnc E sub) l) := by
  rw [flat_encAtS]
  unfold encF lenEnc
  dsimp only
  congr 2
theorem encF_listK (h1 : of ≠ .struct) (h2 : of ≠ .list) (l : List D) (nil : Bool) : encF E.flex E.ver (.mk .list a1 a2 a3 a4 a5 of sub) (.arr nil l) = lenEnc E a3 nil l.length ++ (List.range l.length).flatMap (encAtK (encF E.flex E.ver (kf of)) l) := by
  rw [flat_encAtK]
  have e : encF E.flex E.ver (kf of) = encK of E.flex := by
    funext d
    unfold kf encF
    cases of <;> first | rfl | exact absurd rfl h1 | exact absurd rfl h2
  rw [e]
  unfold encF lenEnc
  dsimp only
  congr 1
  cases of <;> first | exact absurd rfl h1 | exact absurd rfl h2 | rfl
theorem wn_flex {t : Nat} {oa : Option Addr} {n cap : Nat} {M : World → Nat → Prop} {ca cb : Code} {enc : Bs} (hfl : E.fl = true) (hsl : E.sl m k [t] [x] = true)
    (ha : E.flex = true → WrC E m k ca (PrL x oa n cap M) enc) (hb' : E.flex = false → WrC E m k cb (PrL x oa n cap M) enc) :
    WrC E m k (.seq (.region r0 #[⟨some t, .move (.tmp E.sF), y0, q0, e0, none⟩] false) (.cond (.tmp t) ca cb)) (PrL x oa n cap M) enc := by
  obtain ⟨hE, hfr, hrd, hnd⟩ := sl_out hsl
  simp only [List.nodup_cons, List.mem_cons, List.mem_append, List.cons_append, List.nil_append, List.not_mem_nil, or_false, not_or, List.nodup_nil, and_true, not_false_eq_true] at hnd
  exact wv_flex hfl ha hb' (PrL.put (by first | (simp only [hnd, not_false_eq_true, ne_eq]; done) | (intro e; simp [e] at hnd))) ⟨hE, hfr t (by simp), (by first | (simp only [hnd, not_false_eq_true, ne_eq]; done) | (intro e; simp [e] at hnd))⟩
theorem wn_ver {u : Nat} {oa : Option Addr} {n cap : Nat} {M : World → Nat → Prop} {ca cb : Code} {enc : Bs} {z : Int} (hsl : E.sl m k [t1, t2] [x] = true)
    (ha : z ≤ E.ver → WrC E m k ca (PrL x oa n cap M) enc) (hb' : ¬ z ≤ E.ver → WrC E m k cb (PrL x oa n cap M) enc) :
    WrC E m k (.seq (.region r0 #[⟨some t1, .move (.tmp E.sV), y0, q0, e0, none⟩, ⟨some t2, .binOp .geq u (.tmp t1) (.const (.int .i16 z)) u, y1, q1, e1, none⟩] false) (.cond (.tmp t2) ca cb)) (PrL x oa n cap M) enc := by
  obtain ⟨hE, hfr, hrd, hnd⟩ := sl_out hsl
  simp only [List.nodup_cons, List.mem_cons, List.mem_append, List.cons_append, List.nil_append, List.not_mem_nil, or_false, not_or, List.nodup_nil, and_true, not_false_eq_true] at hnd
  exact wv_ver ha hb' (PrL.put (by first | (simp only [hnd, not_false_eq_true, ne_eq]; done) | (intro e; simp [e] at hnd))) (PrL.put (by first | (simp only [hnd, not_false_eq_true, ne_eq]; done) | (intro e; simp [e] at hnd))) ⟨hE, hfr t1 (by simp), hfr t2 (by simp), (by first | (simp only [hnd, not_false_eq_true, ne_eq]; done) | (intro e; simp [e] at hnd)), (by first | (simp only [hnd, not_false_eq_true, ne_eq]; done) | (intro e; simp [e] at hnd))⟩
theorem sl_fr {wr rd : List Nat} (h : E.sl m k wr rd = true) : ∀ d ∈ 1 :: wr, Fre E m k d := (sl_out h).2.1
theorem lenEnc_plain {nil : Bool} {n : Nat} (h : a3 < 0 ∨ E.ver < a3) : lenEnc E a3 nil n = encLen E.flex n := by unfold lenEnc; rw [if_pos h]
theorem lenEnc_null {nil : Bool} {n : Nat} (h : 0 ≤ a3) (h2 : a3 ≤ E.ver) : lenEnc E a3 nil n = encNLen E.flex nil n := by unfold lenEnc; rw [if_neg (by omega)]
theorem wn_call {ty n cap : Nat} {oa : Option Addr} {M : World → Nat → Prop} {enc : Bs} {fn : FuncId} (hty : slB Tryd.prog ty = true) (hen : Enters Tryd.prog fn)
    (hc : AppC fn [.int .i64 n] enc (fun _ => True)) (hsl : E.sl m k [t1, t2, t3, t4] [x] = true) :
    WrC E m k (.region r0 #[⟨some t1, .move (.tmp 1), y0, q0, e0, none⟩, ⟨some t2, .move (.tmp x), y1, q1, e1, none⟩, ⟨some t3, .call { callee := .builtin .len, args := #[.tmp t2], argTypes := #[ty] }, y2, q2, e2, none⟩, ⟨some t4, .call { callee := .value (.func fn), args := #[.tmp t1, .tmp t3], argTypes := us }, y3, q3, e3, none⟩, ⟨some 1, .assign (.tmp t4), y4, q4, e4, none⟩] false)
      (PrL x oa n cap M) enc := by
  obtain ⟨hE, hfr, hrd, hnd⟩ := sl_out hsl
  exact wl_alen hty hen hc hfr (by simpa using hnd)
theorem wn_ncall {ty n cap i j : Nat} {oa : Option Addr} {M : World → Nat → Prop} {enc : Bs} {fn : FuncId} (hty : slB Tryd.prog ty = true) (hen : Enters Tryd.prog fn)
    (hc : AppC fn [.int .i64 n, .bool oa.isNone] enc (fun _ => True)) (hsl : E.sl m k [t1, t2, t3, t4, t5, t6] [x] = true) :
    WrC E m k (.region r0 #[⟨some t1, .move (.tmp 1), y0, q0, e0, none⟩, ⟨some t2, .move (.tmp x), y1, q1, e1, none⟩, ⟨some t3, .call { callee := .builtin .len, args := #[.tmp t2], argTypes := #[ty] }, y2, q2, e2, none⟩, ⟨some t4, .move (.tmp x), y3, q3, e3, none⟩,
      ⟨some t5, .binOp .eql ty (.tmp t4) (.const (.slice none i j)) ty, y4, q4, e4, none⟩, ⟨some t6, .call { callee := .value (.func fn), args := #[.tmp t1, .tmp t3, .tmp t5], argTypes := us }, y5, q5, e5, none⟩, ⟨some 1, .assign (.tmp t6), y6, q6, e6, none⟩] false)
      (PrL x oa n cap M) enc := by
  obtain ⟨hE, hfr, hrd, hnd⟩ := sl_out hsl
  exact wl_anlen hty hen hc hfr (by simpa using hnd)
theorem wn_plain {ty n cap : Nat} {oa : Option Addr} {M : World → Nat → Prop} (h : a3 < 0 ∨ E.ver < a3) (hx : E.flex = false) (hty : slB Tryd.prog ty = true) (hsl : E.sl m k [t1, t2, t3, t4] [x] = true) :
    WrC E m k (.region r0 #[⟨some t1, .move (.tmp 1), y0, q0, e0, none⟩, ⟨some t2, .move (.tmp x), y1, q1, e1, none⟩, ⟨some t3, .call { callee := .builtin .len, args := #[.tmp t2], argTypes := #[ty] }, y2, q2, e2, none⟩, ⟨some t4, .call { callee := .value (.func 52), args := #[.tmp t1, .tmp t3], argTypes := us }, y3, q3, e3, none⟩, ⟨some 1, .assign (.tmp t4), y4, q4, e4, none⟩] false)
      (PrL x oa n cap M) (lenEnc E a3 oa.isNone n) := by
  rw [lenEnc_plain h, hx]
  exact wn_call hty (fun args w => Tryd.call52 args w) (AppendArrayLen_c n) hsl
theorem rep_list {w : World} {G : Nat → Prop} {fl : Bool} {val : Value} (hr : RepF w G fl (.mk .list a1 a2 a3 a4 a5 of sub) d [val]) : ∃ nil l, d = .arr nil l := by
  unfold RepF at hr
  dsimp only at hr
  cases d <;> first | exact hr.elim | exact ⟨_, _, rfl⟩
theorem wv_listS {u0 u1 u2 u3 u4 ty ti b1 b2 i y c1 c2 c3 c4 : Nat} {cl body : Code}
    (hl : ∀ (oa : Option Addr) (n cap : Nat) (M : World → Nat → Prop), WrC E m k cl (PrL x oa n cap M) (lenEnc E a3 oa.isNone n))
    (hty : sliceB Tryd.prog ty (ssz E.fl sub) = true) (hsl : E.sl m k [u0, u1, u2, u3, u4] [x] = true) (hsl2 : E.sl m (u2 + 1) [c1, i, c2, c3, c4, y] [x, u1, u2] = true) (hm : (decide (m ≤ y + 1) && decide (k ≤ u2 + 1)) = true)
    (hb : ∀ s : S, WrC E (y + 1) (u2 + 1) body (PrS E y 0 sub s) (partEnc E sub s)) :
    WrC E m k (.seq cl (.seq (.region r0 #[⟨some u0, .move (.tmp x), y0, q0, e0, none⟩, ⟨some u1, .call { callee := .builtin .len, args := #[.tmp u0], argTypes := #[ty] }, y1, q1, e1, none⟩, ⟨some u2, .move (.const (.int .i64 0)), y2, q2, e2, none⟩] false)
      (.block b1 (.loop (.seq (.region r1 #[⟨some u3, .binOp .lss ti (.tmp u2) (.tmp u1) ti, y3, q3, e3, none⟩] false) (.seq (.cond (.tmp u3) .skip (.exit b1)) (.seq (.block b2
          (.seq (.region r2 #[⟨some c1, .move (.tmp u2), y4, q4, e4, none⟩, ⟨some i, .assign (.tmp c1), y5, q5, e5, none⟩] false) (.seq (.region r3 #[⟨some c2, .move (.tmp x), y6, q6, e6, none⟩, ⟨some c3, .move (.tmp i), y7, q7, e7, none⟩, ⟨some c4, .indexAddr ty (.tmp c2) (.tmp c3), y8, q8, e8, none⟩, ⟨some y, .assign (.tmp c4), y9, q9, e9, none⟩] false) body)))
        (.region r4 #[⟨some u4, .binOp .add ti (.tmp u2) (.const (.int .i64 1)) ti, y10, q10, e10, none⟩, ⟨some u2, .move (.tmp u4), y11, q11, e11, none⟩] false))))))))
      (PrF E x (.mk .list a1 a2 a3 a4 a5 .struct sub) d) (encF E.flex E.ver (.mk .list a1 a2 a3 a4 a5 .struct sub) d) := by
  simp only [Bool.and_eq_true, decide_eq_true_eq] at hm
  obtain ⟨hE, hfr, hrd, hnd⟩ := sl_out hsl
  obtain ⟨hE2, hfr2, hrd2, hnd2⟩ := sl_out hsl2
  intro a w base v bs hwk hv hown hbb hpre hlim
  obtain ⟨val, g1, hr⟩ := hpre
  obtain ⟨nil, l, rfl⟩ := rep_list hr
  rw [encF_listS] at hlim ⊢
  refine wr_list (fun oa cap hn => by subst hn; exact hl oa l.length cap _) (fun oa cap hn => ?_) ⟨hE, hrd x (by simp)⟩ a w base v bs hwk hv hown hbb ⟨val, g1, hr⟩ hlim
  refine wr_loop (m' := m) (k' := u2 + 1) hty ML.stable hn (fun j hj => ?_) ⟨hE, hrd x (by simp), Nat.le_refl _, hm.2, hrd2 u1 (by simp), hrd2 u2 (by simp)⟩ (fun d hd => hfr d (List.mem_cons_of_mem _ hd)) (by simpa using hnd)
  have hnd3 : [1, x, u2, c1, i, c2, c3, c4, y].Nodup := by
    refine List.Nodup.sublist ?_ hnd2
    exact .cons_cons _ (.cons_cons _ (.cons _ (List.Sublist.refl _)))
  exact wr_elemS hty rfl rfl hj (fun s _ => hb s) ⟨hE2, hm.1, Nat.le_refl _⟩ (fun d hd => hfr2 d (List.mem_cons_of_mem _ hd)) hnd3
theorem wv_listK {u0 u1 u2 u3 u4 ty ty2 ti b1 b2 i y c1 c2 c3 c4 c5 : Nat} {cl body : Code}
    (hl : ∀ (oa : Option Addr) (n cap : Nat) (M : World → Nat → Prop), WrC E m k cl (PrL x oa n cap M) (lenEnc E a3 oa.isNone n))
    (hof : (decide (of ≠ .struct) && decide (of ≠ .list) && decide (ksz of = 1) && sliceB Tryd.prog ty 1 && scalB Tryd.prog ty2) = true)
    (hsl : E.sl m k [u0, u1, u2, u3, u4] [x] = true) (hsl2 : E.sl m (u2 + 1) [c1, i, c2, c3, c4, c5, y] [x, u1, u2] = true) (hm : (decide (m ≤ y + 1) && decide (k ≤ u2 + 1)) = true)
    (hb : ∀ d : D, WrC E (y + 1) (u2 + 1) body (PrF E y (kf of) d) (encF E.flex E.ver (kf of) d)) :
    WrC E m k (.seq cl (.seq (.region r0 #[⟨some u0, .move (.tmp x), y0, q0, e0, none⟩, ⟨some u1, .call { callee := .builtin .len, args := #[.tmp u0], argTypes := #[ty] }, y1, q1, e1, none⟩, ⟨some u2, .move (.const (.int .i64 0)), y2, q2, e2, none⟩] false)
      (.block b1 (.loop (.seq (.region r1 #[⟨some u3, .binOp .lss ti (.tmp u2) (.tmp u1) ti, y3, q3, e3, none⟩] false) (.seq (.cond (.tmp u3) .skip (.exit b1)) (.seq (.block b2
          (.seq (.region r2 #[⟨some c1, .move (.tmp u2), y4, q4, e4, none⟩, ⟨some i, .assign (.tmp c1), y5, q5, e5, none⟩] false) (.seq (.region r3 #[⟨some c2, .move (.tmp x), y6, q6, e6, none⟩, ⟨some c3, .move (.tmp i), y7, q7, e7, none⟩, ⟨some c4, .indexAddr ty (.tmp c2) (.tmp c3), y8, q8, e8, none⟩, ⟨some c5, .load ty2 (.tmp c4), y9, q9, e9, none⟩, ⟨some y, .assign (.tmp c5), y10, q10, e10, none⟩] false) body)))
        (.region r4 #[⟨some u4, .binOp .add ti (.tmp u2) (.const (.int .i64 1)) ti, y11, q11, e11, none⟩, ⟨some u2, .move (.tmp u4), y12, q12, e12, none⟩] false))))))))
      (PrF E x (.mk .list a1 a2 a3 a4 a5 of sub) d) (encF E.flex E.ver (.mk .list a1 a2 a3 a4 a5 of sub) d) := by
  simp only [Bool.and_eq_true, decide_eq_true_eq] at hm hof
  obtain ⟨⟨⟨⟨o1, o2⟩, o3⟩, o4⟩, o5⟩ := hof
  obtain ⟨hE, hfr, hrd, hnd⟩ := sl_out hsl
  obtain ⟨hE2, hfr2, hrd2, hnd2⟩ := sl_out hsl2
  intro a w base v bs hwk hv hown hbb hpre hlim
  obtain ⟨val, g1, hr⟩ := hpre
  obtain ⟨nil, l, rfl⟩ := rep_list hr
  rw [encF_listK o1 o2] at hlim ⊢
  refine wr_list (fun oa cap hn => by subst hn; exact hl oa l.length cap _) (fun oa cap hn => ?_) ⟨hE, hrd x (by simp)⟩ a w base v bs hwk hv hown hbb ⟨val, g1, hr⟩ hlim
  refine wr_loop (m' := m) (k' := u2 + 1) o4 ML.stable hn (fun j hj => ?_) ⟨hE, hrd x (by simp), Nat.le_refl _, hm.2, hrd2 u1 (by simp), hrd2 u2 (by simp)⟩ (fun d hd => hfr d (List.mem_cons_of_mem _ hd)) (by simpa using hnd)
  have hnd3 : [1, x, u2, c1, i, c2, c3, c4, c5, y].Nodup := by
    refine List.Nodup.sublist ?_ hnd2
    exact .cons_cons _ (.cons_cons _ (.cons _ (List.Sublist.refl _)))
  exact wr_elemK o4 o5 ⟨o1, o2, o3⟩ rfl hj (fun d _ => hb d) ⟨hE2, hm.1, Nat.le_refl _⟩ (fun d hd => hfr2 d (List.mem_cons_of_mem _ hd)) hnd3
theorem wv_again {y : Nat} {f : Fld} {c : Code} {enc : Bs} (hsl : E.sl m k [t1, y] [x] = true) (hm : decide (m ≤ y + 1) = true) (h : WrC E (y + 1) k c (PrF E y f d) enc) :
    WrC E m k (.seq (.region r0 #[⟨some t1, .move (.tmp x), y0, q0, e0, none⟩, ⟨some y, .assign (.tmp t1), y1, q1, e1, none⟩] false) c) (PrF E x f d) enc := by
  obtain ⟨hE, hfr, hrd, hnd⟩ := sl_out hsl
  exact wv_conv h ⟨hE, of_decide_eq_true hm, Nat.le_refl _⟩ (fun d hd => hfr d (List.mem_cons_of_mem _ hd)) hnd
theorem wf_inner {sS k0 i T idx y : Nat} {fs : List Fld} {s : S} {c : Code}
    (hf : fs[i]? = some (.mk .struct a1 a2 a3 a4 a5 of sub)) (hd : s.ds[i]? = some d) (hB : (fieldB Tryd.prog T idx (k0 + foff E.fl fs i) (fsz E.fl (.mk .struct a1 a2 a3 a4 a5 of sub)) && decide (a3 < 0)) = true)
    (hsl : E.sl m k [t1, t2, t3, y] [sS] = true) (hm : decide (m ≤ y + 1) = true) (h : ∀ s' : S, WrC E (y + 1) k c (PrS E y 0 sub s') (partEnc E sub s')) :
    WrC E m k (.seq (.region r0 #[⟨some t1, .move (.tmp sS), y0, q0, e0, none⟩, ⟨some t2, .nilCheck (.tmp t1), y1, q1, e1, none⟩, ⟨some t3, .fieldAddr T (.tmp t2) idx, y2, q2, e2, none⟩, ⟨some y, .assign (.tmp t3), y3, q3, e3, none⟩] false) c) (PrS E sS k0 fs s)
      (encF E.flex E.ver (.mk .struct a1 a2 a3 a4 a5 of sub) d) := by
  simp only [Bool.and_eq_true, beq_iff_eq, decide_eq_true_eq] at hB
  obtain ⟨b1, b3⟩ := hB
  obtain ⟨hE, hfr, hrd, hnd⟩ := sl_out hsl
  intro a w base v bs hwk hv hown hbb hpre hlim
  have hl : ∃ s' : S, d = s'.d := by
    obtain ⟨B, p, g1, hat, hB⟩ := hpre
    obtain ⟨d', cs, Tb, k1, k2, k3, k4⟩ := hat.field hf
    rw [hd] at k1
    cases k1
    unfold RepF at k4
    dsimp only at k4
    rw [if_pos b3] at k4
    obtain ⟨s', h1, _⟩ := k4
    exact ⟨s', h1⟩
  obtain ⟨s', rfl⟩ := hl
  have e : encF E.flex E.ver (.mk .struct a1 a2 a3 a4 a5 of sub) s'.d = partEnc E sub s' := by
    rw [partEnc_eq]
    unfold encF
    dsimp only
    rw [if_pos b3]
    rfl
  rw [e] at hlim ⊢
  exact wr_inner hf b3 hd b1 rfl (h s') ⟨hE, of_decide_eq_true hm, Nat.le_refl _⟩ (fun d hd => hfr d (List.mem_cons_of_mem _ hd)) hnd a w base v bs hwk hv hown hbb hpre hlim
theorem wp_noflex {sS k0 : Nat} {fs : List Fld} {s : S} {c : Code} (hx : E.flex = false) (h : WrC E m k c (PrS E sS k0 fs s) (fTail E fs s 0 [])) : WrC E m k c (PrS E sS k0 fs s) (partEnc E fs s) := by
  unfold partEnc tagsEnc; rw [hx]; exact h
theorem wr_start {sS k0 : Nat} {fs : List Fld} {s : S} {c : Code} (h : WrC E m k c (PrS E sS k0 fs s) (fTail E fs s 0 (tagsEnc E fs s))) : WrC E m k c (PrS E sS k0 fs s) (partEnc E fs s) := h
def WrT (E : WEnv) (m k r : Nat) (c : Code) (pre : Act → World → Nat → Prop) (enc : Bs) : Prop :=
  ∀ (a : Act) (w : World) (base : Nat) (v : Value) (bs : Bs), WOK E a → get a 1 = v → Own eB w base v bs → base ≤ w.heap.size → pre a w base → bs.length + enc.length ≤ LIM →
    c.wp Tryd.prog (Fin r (App eB w base v (bs ++ enc))) a w
theorem wt_start {r sS k0 : Nat} {fs : List Fld} {s : S} {c : Code} (h : WrT E m k r c (PrS E sS k0 fs s) (fTail E fs s 0 (tagsEnc E fs s))) : WrT E m k r c (PrS E sS k0 fs s) (partEnc E fs s) := h
theorem wt_seq {r : Nat} {c1 c2 : Code} {pre : Act → World → Nat → Prop} {enc1 enc2 : Bs} (hE : E.safe m k) (h1 : WrC E m k c1 pre enc1) (h2 : WrT E m k r c2 pre enc2) (hs : Stable E m k pre pre) : WrT E m k r (.seq c1 c2) pre (enc1 ++ enc2) := by
  intro a w base v bs hok hv hown hb hpre hlim
  rw [List.length_append] at hlim
  refine wp_seq (wp_mono (h1 a w base v bs hok hv hown hb hpre (by omega)) ?_)
  intro e a1 w1 hq
  cases e <;> try exact hq.elim
  obtain ⟨hk, happ⟩ := hq
  have hc := happ.chgFrom hown
  refine wp_mono (h2 a1 w1 base _ _ (hok.keep hk hE.1 hE.2) rfl happ.own (Nat.le_trans hb hc.size) (hs _ _ _ _ _ hpre hk hc hb) (by rw [List.length_append]; omega)) ?_
  intro e a2 w2 hq
  cases e <;> simp only [Fin] at hq ⊢ <;> exact ⟨hq.1, by rw [← List.append_assoc]; exact happ.trans hq.2⟩
theorem wt_next {r sS k0 i : Nat} {fs : List Fld} {s : S} {f : Fld} {tl : Bs} {c1 c2 : Code} (hf : fs[i]? = some f) (hsl : E.sl m k [] [sS] = true)
    (h1 : ∀ d, s.ds[i]? = some d → WrC E m k c1 (PrS E sS k0 fs s) (fEnc E f d)) (h2 : WrT E m k r c2 (PrS E sS k0 fs s) (fTail E fs s (i + 1) tl)) :
    WrT E m k r (.seq c1 c2) (PrS E sS k0 fs s) (fTail E fs s i tl) := by
  intro a w base v bs hwk hv hown hb hpre hlim
  obtain ⟨d, hd⟩ := hpre.at_d hf
  rw [fTail_step hf hd] at hlim ⊢
  obtain ⟨hE, _, hr, _⟩ := sl_out hsl
  exact wt_seq hE (h1 d hd) h2 (PrS.stable (hr sS (by simp))) a w base v bs hwk hv hown hb hpre hlim
theorem wt_tagged {r sS k0 i : Nat} {fs : List Fld} {s : S} {f : Fld} {tl : Bs} {c : Code} (hf : fs[i]? = some f) (ht : decide (0 ≤ f.tag) = true)
    (h : WrT E m k r c (PrS E sS k0 fs s) (fTail E fs s (i + 1) tl)) : WrT E m k r c (PrS E sS k0 fs s) (fTail E fs s i tl) := by
  intro a w base v bs hwk hv hown hb hpre hlim
  obtain ⟨d, hd⟩ := hpre.at_d hf
  have e : fEnc E f d = [] := by
    have := of_decide_eq_true ht
    unfold fEnc; rw [if_neg]; simp; omega
  rw [fTail_step hf hd, e, List.nil_append] at hlim ⊢
  exact h a w base v bs hwk hv hown hb hpre hlim
theorem wt_ret {r t : Nat} {pre : Act → World → Nat → Prop} (ht : (decide (t < E.N) && decide (r < E.N)) = true) : WrT E m k r (.seq (.region r0 #[⟨some t, .move (.tmp 1), y0, q0, e0, none⟩, ⟨some r, .assign (.tmp t), y1, q1, e1, none⟩] false) .ret) pre [] := by
  simp only [Bool.and_eq_true, decide_eq_true_eq] at ht
  intro a w base v bs hok hv hown hb hpre hlim
  have hN := hok.1
  refine wp_seq_k fun K hK => ?_
  refine wp_reg ?_
  refine wl_move ?_
  rw [eval_tmp, hv]
  refine wl_assign ?_
  rw [eval_tmp, get_put_self (by rw [hN]; exact ht.1)]
  refine wl_nil (hK _ _ ?_)
  refine wp_ret ⟨by rw [defers_put, defers_put]; exact hok.2.1, ?_⟩
  rw [get_put_self (by rw [size_put, hN]; exact ht.2), List.append_nil]
  exact App.refl hown
theorem wt_end {r sS k0 i : Nat} {fs : List Fld} {s : S} {c1 c2 : Code} (hl : decide (fs.length ≤ i) = true) (hsl : E.sl m k [] [sS] = true) (h1 : WrC E m k c1 (PrS E sS k0 fs s) (tagsEnc E fs s)) (h2 : WrT E m k r c2 (PrS E sS k0 fs s) []) :
    WrT E m k r (.seq c1 c2) (PrS E sS k0 fs s) (fTail E fs s i (tagsEnc E fs s)) := by
  rw [fTail_end (of_decide_eq_true hl)]
  obtain ⟨hE, _, hr, _⟩ := sl_out hsl
  have := wt_seq hE h1 h2 (PrS.stable (hr sS (by simp)))
  rwa [List.append_nil] at this
theorem wt_fin {r sS k0 i : Nat} {fs : List Fld} {s : S} {c2 : Code} (hl : decide (fs.length ≤ i) = true) (hx : E.flex = false) (h2 : WrT E m k r c2 (PrS E sS k0 fs s) []) :
    WrT E m k r c2 (PrS E sS k0 fs s) (fTail E fs s i (tagsEnc E fs s)) := by
  rw [fTail_end (of_decide_eq_true hl)]
  unfold tagsEnc; rw [hx]; exact h2
def AppendsTo (fn : FuncId) (fl : Bool) (flx : Int → Bool) (fs : List Fld) : Prop :=
  ∀ (s : S) (ver : Int) (B : Nat) (w : World) (base : Nat) (v : Value) (bs : Bs), 0 ≤ ver → (∃ cs T, Blk w B cs T ∧ cs[0]? = some (.int .i16 ver)) → At w (fun g => g < base) fl fs s B 1 → B < base → base ≤ w.heap.size →
    Own eB w base v bs → bs.length + (encPart (flx ver) ver fs s).length ≤ LIM →
    CallsR Tryd.prog fn #[.pointer (some ⟨B, 0, none⟩), v] w (App eB w base v (bs ++ encPart (flx ver) ver fs s))
theorem app_flex {fn : FuncId} {func : Func} {N r sV sF t0 t1 t2 t3 t4 t5 t6 t7 T ty u : Nat} {i0 i1 : Nat} {vf : Int} {fs : List Fld} {c : Code}
    (hfn : (Tryd.prog).funcs[fn]? = some func)
    (hbody : func.body = some (.seq (.region r0 #[⟨some r, .assign (.const (.slice none i0 i1)), y0, q0, e0, none⟩] false) (.seq (.region r1 #[⟨some t0, .move (.tmp 0), y1, q1, e1, none⟩, ⟨some t1, .nilCheck (.tmp t0), y2, q2, e2, none⟩, ⟨some t2, .fieldAddr T (.tmp t1) 0, y3, q3, e3, none⟩, ⟨some t3, .load ty (.tmp t2), y4, q4, e4, none⟩, ⟨some sV, .assign (.tmp t3), y5, q5, e5, none⟩] false)
      (.seq (.region r2 #[⟨some t4, .move (.tmp sV), y6, q6, e6, none⟩] false) (.seq (.region r3 #[⟨some t5, .move (.tmp sV), y7, q7, e7, none⟩, ⟨some t6, .binOp .geq u (.tmp t5) (.const (.int .i16 vf)) u, y8, q8, e8, none⟩, ⟨some sF, .assign (.tmp t6), y9, q9, e9, none⟩] false) (.seq (.region r4 #[⟨some t7, .move (.tmp sF), y10, q10, e10, none⟩] false) c))))))
    (hres : func.results = #[.tmp r]) (hN : func.ntmps = N) (hF : (fieldB Tryd.prog T 0 0 1 && scalB Tryd.prog ty && decide (2 ≤ N) && decide ((0 :: 1 :: [r, t0, t1, t2, t3, t4, t5, t6, t7, sV, sF]).Nodup) && [r, t0, t1, t2, t3, t4, t5, t6, t7, sV, sF].all (fun t => decide (t < N))) = true)
    (h : ∀ (ver : Int) (s : S), 0 ≤ ver → WrT ⟨N, t0, sV, sF, ver, decide (vf ≤ ver), true⟩ (sF + 1) t0 r c (PrS ⟨N, t0, sV, sF, ver, decide (vf ≤ ver), true⟩ 0 1 fs s) (partEnc ⟨N, t0, sV, sF, ver, decide (vf ≤ ver), true⟩ fs s)) :
    AppendsTo fn true (fun ver => decide (vf ≤ ver)) fs := by
  simp only [Bool.and_eq_true, decide_eq_true_eq, List.all_eq_true] at hF
  obtain ⟨⟨⟨⟨f1, f2⟩, f3⟩, hnd⟩, hlt⟩ := hF
  simp only [List.nodup_cons, List.mem_cons, List.not_mem_nil, or_false, not_or, List.nodup_nil, and_true, not_false_eq_true, forall_eq_or_imp, forall_eq] at hnd hlt
  intro s ver B w base v bs hver hb0 hat hB hbase hown hlim
  obtain ⟨cs, Tb, hblk, hc0⟩ := hb0
  refine callsR_of hfn hbody hres hN (by simpa using f3) ?_
  intro a hN hD ha
  have h0 : get a 0 = .pointer (some ⟨B, 0, none⟩) := ha 0 _ rfl
  have h1 : get a 1 = v := ha 1 _ rfl
  have hfr : True := trivial
  refine wp_seq_k fun K hK => ?_
  refine wp_reg ?_
  refine wl_assign ?_
  refine wl_nil (hK _ _ ?_)
  clear hK K
  refine wp_seq_k fun K hK => ?_
  refine wp_reg ?_
  refine wl_move ?_
  simp only [eval_tmp, eval_const, get_put_self, get_put_ne, get_put_ne', ne_eq, size_put, hN, hnd, hlt, not_false_eq_true, h0]
  refine wl_nilCheck (p := ⟨B, 0, none⟩) (by simp only [eval_tmp, eval_const, get_put_self, get_put_ne, get_put_ne', ne_eq, size_put, hN, hnd, hlt, not_false_eq_true, h0]) ?_
  refine wl_fieldAddr (b := B) (o := 0) f1 (by simp only [eval_tmp, eval_const, get_put_self, get_put_ne, get_put_ne', ne_eq, size_put, hN, hnd, hlt, not_false_eq_true, h0]) ?_
  refine wl_load (b := B) (o := 0 + 0) f2 (by simp only [eval_tmp, eval_const, get_put_self, get_put_ne, get_put_ne', ne_eq, size_put, hN, hnd, hlt, not_false_eq_true, h0]) hblk hc0 ?_
  refine wl_assign ?_
  simp only [eval_tmp, eval_const, get_put_self, get_put_ne, get_put_ne', ne_eq, size_put, hN, hnd, hlt, not_false_eq_true, h0]
  refine wl_nil (hK _ _ ?_)
  clear hK K
  refine wp_seq_k fun K hK => ?_
  refine wp_reg ?_
  refine wl_move ?_
  simp only [eval_tmp, eval_const, get_put_self, get_put_ne, get_put_ne', ne_eq, size_put, hN, hnd, hlt, not_false_eq_true, h0]
  refine wl_nil (hK _ _ ?_)
  clear hK K
  refine wp_seq_k fun K hK => ?_
  refine wp_reg ?_
  refine wl_move ?_
  simp only [eval_tmp, eval_const, get_put_self, get_put_ne, get_put_ne', ne_eq, size_put, hN, hnd, hlt, not_false_eq_true, h0]
  refine wl_geq (by simp only [eval_tmp, eval_const, get_put_self, get_put_ne, get_put_ne', ne_eq, size_put, hN, hnd, hlt, not_false_eq_true, h0, sameK, decide_true]) ?_
  simp only [eval_tmp, eval_const, get_put_self, get_put_ne, get_put_ne', ne_eq, size_put, hN, hnd, hlt, not_false_eq_true, h0, cmp2]
  refine wl_assign ?_
  simp only [eval_tmp, eval_const, get_put_self, get_put_ne, get_put_ne', ne_eq, size_put, hN, hnd, hlt, not_false_eq_true, h0]
  refine wl_nil (hK _ _ ?_)
  clear hK K
  refine wp_seq_k fun K hK => ?_
  refine wp_reg ?_
  refine wl_move ?_
  simp only [eval_tmp, eval_const, get_put_self, get_put_ne, get_put_ne', ne_eq, size_put, hN, hnd, hlt, not_false_eq_true, h0]
  refine wl_nil (hK _ _ ?_)
  clear hK K
  have he : partEnc ⟨N, t0, sV, sF, ver, decide (vf ≤ ver), true⟩ fs s = encPart (decide (vf ≤ ver)) ver fs s := partEnc_eq _ _ _
  rw [← he] at hlim ⊢
  refine h ver s hver _ w base v bs ⟨by simp only [size_put, hN], by simp only [defers_put, hD], ?_, fun _ => ?_⟩ ?_ hown hbase ⟨B, 0, ?_, ?_, hB⟩ hlim
  · simp only [eval_tmp, eval_const, get_put_self, get_put_ne, get_put_ne', ne_eq, size_put, hN, hnd, hlt, not_false_eq_true, h0]
  · simp only [eval_tmp, eval_const, get_put_self, get_put_ne, get_put_ne', ne_eq, size_put, hN, hnd, hlt, not_false_eq_true, h0]
  · simp only [eval_tmp, eval_const, get_put_self, get_put_ne, get_put_ne', ne_eq, size_put, hN, hnd, hlt, not_false_eq_true, h1]
  · simp only [eval_tmp, eval_const, get_put_self, get_put_ne, get_put_ne', ne_eq, size_put, hN, hnd, hlt, not_false_eq_true, h0]
  · exact hat
theorem app_plain {fn : FuncId} {func : Func} {N r sV t0 t1 t2 t3 t4 T ty : Nat} {i0 i1 : Nat} {fs : List Fld} {c : Code}
    (hfn : (Tryd.prog).funcs[fn]? = some func)
    (hbody : func.body = some (.seq (.region r0 #[⟨some r, .assign (.const (.slice none i0 i1)), y0, q0, e0, none⟩] false) (.seq (.region r1 #[⟨some t0, .move (.tmp 0), y1, q1, e1, none⟩, ⟨some t1, .nilCheck (.tmp t0), y2, q2, e2, none⟩, ⟨some t2, .fieldAddr T (.tmp t1) 0, y3, q3, e3, none⟩, ⟨some t3, .load ty (.tmp t2), y4, q4, e4, none⟩, ⟨some sV, .assign (.tmp t3), y5, q5, e5, none⟩] false)
      (.seq (.region r2 #[⟨some t4, .move (.tmp sV), y6, q6, e6, none⟩] false) c))))
    (hres : func.results = #[.tmp r]) (hN : func.ntmps = N) (hF : (fieldB Tryd.prog T 0 0 1 && scalB Tryd.prog ty && decide (2 ≤ N) && decide ((0 :: 1 :: [r, t0, t1, t2, t3, t4, sV]).Nodup) && [r, t0, t1, t2, t3, t4, sV].all (fun t => decide (t < N))) = true)
    (h : ∀ (ver : Int) (s : S), 0 ≤ ver → WrT ⟨N, t0, sV, 0, ver, false, false⟩ (sV + 1) t0 r c (PrS ⟨N, t0, sV, 0, ver, false, false⟩ 0 1 fs s) (partEnc ⟨N, t0, sV, 0, ver, false, false⟩ fs s)) :
    AppendsTo fn false (fun _ => false) fs := by
  simp only [Bool.and_eq_true, decide_eq_true_eq, List.all_eq_true] at hF
  obtain ⟨⟨⟨⟨f1, f2⟩, f3⟩, hnd⟩, hlt⟩ := hF
  simp only [List.nodup_cons, List.mem_cons, List.not_mem_nil, or_false, not_or, List.nodup_nil, and_true, not_false_eq_true, forall_eq_or_imp, forall_eq] at hnd hlt
  intro s ver B w base v bs hver hb0 hat hB hbase hown hlim
  obtain ⟨cs, Tb, hblk, hc0⟩ := hb0
  refine callsR_of hfn hbody hres hN (by simpa using f3) ?_
  intro a hN hD ha
  have h0 : get a 0 = .pointer (some ⟨B, 0, none⟩) := ha 0 _ rfl
  have h1 : get a 1 = v := ha 1 _ rfl
  have hfr : True := trivial
  refine wp_seq_k fun K hK => ?_
  refine wp_reg ?_
  refine wl_assign ?_
  refine wl_nil (hK _ _ ?_)
  clear hK K
  refine wp_seq_k fun K hK => ?_
  refine wp_reg ?_
  refine wl_move ?_
  simp only [eval_tmp, eval_const, get_put_self, get_put_ne, get_put_ne', ne_eq, size_put, hN, hnd, hlt, not_false_eq_true, h0]
  refine wl_nilCheck (p := ⟨B, 0, none⟩) (by simp only [eval_tmp, eval_const, get_put_self, get_put_ne, get_put_ne', ne_eq, size_put, hN, hnd, hlt, not_false_eq_true, h0]) ?_
  refine wl_fieldAddr (b := B) (o := 0) f1 (by simp only [eval_tmp, eval_const, get_put_self, get_put_ne, get_put_ne', ne_eq, size_put, hN, hnd, hlt, not_false_eq_true, h0]) ?_
  refine wl_load (b := B) (o := 0 + 0) f2 (by simp only [eval_tmp, eval_const, get_put_self, get_put_ne, get_put_ne', ne_eq, size_put, hN, hnd, hlt, not_false_eq_true, h0]) hblk hc0 ?_
  refine wl_assign ?_
  simp only [eval_tmp, eval_const, get_put_self, get_put_ne, get_put_ne', ne_eq, size_put, hN, hnd, hlt, not_false_eq_true, h0]
  refine wl_nil (hK _ _ ?_)
  clear hK K
  refine wp_seq_k fun K hK => ?_
  refine wp_reg ?_
  refine wl_move ?_
  simp only [eval_tmp, eval_const, get_put_self, get_put_ne, get_put_ne', ne_eq, size_put, hN, hnd, hlt, not_false_eq_true, h0]
  refine wl_nil (hK _ _ ?_)
  clear hK K
  have he : partEnc ⟨N, t0, sV, 0, ver, false, false⟩ fs s = encPart false ver fs s := partEnc_eq _ _ _
  rw [← he] at hlim ⊢
  refine h ver s hver _ w base v bs ⟨by simp only [size_put, hN], by simp only [defers_put, hD], ?_, fun e => by cases e⟩ ?_ hown hbase ⟨B, 0, ?_, ?_, hB⟩ hlim
  · simp only [eval_tmp, eval_const, get_put_self, get_put_ne, get_put_ne', ne_eq, size_put, hN, hnd, hlt, not_false_eq_true, h0]
  · simp only [eval_tmp, eval_const, get_put_self, get_put_ne, get_put_ne', ne_eq, size_put, hN, hnd, hlt, not_false_eq_true, h1]
  · simp only [eval_tmp, eval_const, get_put_self, get_put_ne, get_put_ne', ne_eq, size_put, hN, hnd, hlt, not_false_eq_true, h0]
  · exact hat
end
end Go.Proofs.YtgjnllebnkjofaaDoor
namespace Go.Proofs.YtgjnllebnkjofaaDoor
set_option linter.all false
open Go.RowKit
set_option maxRecDepth 10000
set_option maxHeartbeats 1000000
section
variable {P : Program} {ops : Array Oper} {Q : Exit → Act → World → Prop} {a : Act} {w : World} {rest : List Oper} {d : Option Nat} {ty : TypeId} {pos : String} {af : Array Edge}
theorem wl_rem {t u : TypeId} {x y : Operand} {j : IntKind} {m n : Int} (hx : a.eval x = .int j m) (hy : a.eval y = .int j n) (hn : n ≠ 0)
    (h : WL P ops Q rest (a.put d (.int j (m.tmod n))) w) : WL P ops Q (⟨d, .binOp .rem t x y u, ty, pos, af, none⟩ :: rest) a w :=
  wl_val rfl (by simp [execOp, eqGuard, binOp, hx, hy, Op.intDiv, hn]) h
end
theorem i16_id (n : Int) (h : -32768 ≤ n ∧ n ≤ 32767) : IntKind.i16.wrap n = n := by simp [IntKind.wrap, IntKind.bits, IntKind.signed]; split <;> omega
theorem version_c (n most : Int) (hn : 0 ≤ n) (hm : 0 ≤ most) (hm2 : most < 32768) (hn2 : n < 256) (w : World) : CallsR Tryd.prog 16 #[.int .u8 n, .int .i64 most] w fun v w' => v = .int .i64 (n % (most + 1)) ∧ w' = w := by
  refine callsR_of Tryd.func16 rfl rfl Tryd.ntmps16 (by simp) ?_
  intro a hN hD ha
  have h0 : get a 0 = .int .u8 n := ha 0 _ rfl
  have h1 : get a 1 = .int .i64 most := ha 1 _ rfl
  refine wp_seq_k fun K hK => ?_; refine wp_reg ?_; (repeat (first | ((first | (with_reducible first | refine wl_move ?_ | refine wl_assign ?_ | refine wl_add ?_ ?_ | refine wl_sub ?_ ?_ | refine wl_lss ?_ ?_ | refine wl_leq ?_ ?_ | refine wl_gtr ?_ ?_ | refine wl_geq ?_ ?_ | refine wl_eql ?_ ?_ | refine wl_neq ?_ ?_ | refine wl_not ?_ ?_ | refine wl_shr ?_ ?_ ?_ | refine wl_and127 ?_ ?_ | refine wl_or128 ?_ ?_ ?_) | ((with_reducible refine wl_conv ?_ ?_ ?_ ?_); (· kernel_rfl); (· kernel_rfl)) | ((with_reducible refine wl_len ?_ ?_ ?_); rotate_left 1; (· simp [evb, kb, hN, sdb]); rotate_left 1; (· kernel_rfl)) | ((with_reducible refine wl_lenS ?_ ?_ ?_); rotate_left 1; (· simp [evb, kb, hN, sdb]); rotate_left 1; (· kernel_rfl))) <;> (first | (with_reducible refine wl_id ?_; try simp only [evb, kb, hN, Nat.reduceLT, Nat.reduceEqDiff, reduceIte, Int.reduceToNat, Int.reduceBEq]) | (simp [evb, kb, hN, sdb] <;> omega))))); refine wl_nil ?_; refine hK _ _ ?_; clear hK K
  refine wp_seq_k fun K hK => ?_; refine wp_reg ?_; (repeat (first | ((first | (with_reducible first | refine wl_move ?_ | refine wl_assign ?_ | refine wl_add ?_ ?_ | refine wl_sub ?_ ?_ | refine wl_lss ?_ ?_ | refine wl_leq ?_ ?_ | refine wl_gtr ?_ ?_ | refine wl_geq ?_ ?_ | refine wl_eql ?_ ?_ | refine wl_neq ?_ ?_ | refine wl_not ?_ ?_ | refine wl_shr ?_ ?_ ?_ | refine wl_and127 ?_ ?_ | refine wl_or128 ?_ ?_ ?_) | ((with_reducible refine wl_conv ?_ ?_ ?_ ?_); (· kernel_rfl); (· kernel_rfl)) | ((with_reducible refine wl_len ?_ ?_ ?_); rotate_left 1; (· simp [evb, kb, hN, h0, h1, sdb]); rotate_left 1; (· kernel_rfl)) | ((with_reducible refine wl_lenS ?_ ?_ ?_); rotate_left 1; (· simp [evb, kb, hN, h0, h1, sdb]); rotate_left 1; (· kernel_rfl))) <;> (first | (with_reducible refine wl_id ?_; try simp only [evb, kb, hN, Nat.reduceLT, Nat.reduceEqDiff, reduceIte, Int.reduceToNat, Int.reduceBEq, h0, h1]) | (simp [evb, kb, hN, h0, h1, sdb] <;> omega)))))
  rw [i64_id n (by omega), i64_id (most + 1) (by omega)]
  refine wl_rem (j := .i64) (m := n) (n := most + 1) (by simp only [evb, kb, hN, Nat.reduceLT, Nat.reduceEqDiff, reduceIte, Int.reduceToNat, Int.reduceBEq]) (by simp only [evb, kb, hN, Nat.reduceLT, Nat.reduceEqDiff, reduceIte, Int.reduceToNat, Int.reduceBEq]) (by omega) ?_
  rw [Int.tmod_eq_emod_of_nonneg hn]
  (repeat (first | ((first | (with_reducible first | refine wl_move ?_ | refine wl_assign ?_ | refine wl_add ?_ ?_ | refine wl_sub ?_ ?_ | refine wl_lss ?_ ?_ | refine wl_leq ?_ ?_ | refine wl_gtr ?_ ?_ | refine wl_geq ?_ ?_ | refine wl_eql ?_ ?_ | refine wl_neq ?_ ?_ | refine wl_not ?_ ?_ | refine wl_shr ?_ ?_ ?_ | refine wl_and127 ?_ ?_ | refine wl_or128 ?_ ?_ ?_) | ((with_reducible refine wl_conv ?_ ?_ ?_ ?_); (· kernel_rfl); (· kernel_rfl)) | ((with_reducible refine wl_len ?_ ?_ ?_); rotate_left 1; (· simp [evb, kb, hN, sdb]); rotate_left 1; (· kernel_rfl)) | ((with_reducible refine wl_lenS ?_ ?_ ?_); rotate_left 1; (· simp [evb, kb, hN, sdb]); rotate_left 1; (· kernel_rfl))) <;> (first | (with_reducible refine wl_id ?_; try simp only [evb, kb, hN, Nat.reduceLT, Nat.reduceEqDiff, reduceIte, Int.reduceToNat, Int.reduceBEq]) | (simp [evb, kb, hN, sdb] <;> omega))))); refine wl_nil ?_; refine hK _ _ ?_; clear hK K; refine wp_ret ⟨by simp [defers_put, hD], ?_⟩; simp only [evb, kb, hN, Nat.reduceLT, Nat.reduceEqDiff, reduceIte, Int.reduceToNat, Int.reduceBEq]
  exact ⟨by first | rfl | trivial, by first | rfl | trivial⟩
def DefF (fn : FuncId) (zc dc : List Value) : Prop := ∀ (w : World) (B : Nat) (v : Value) (T : TypeId), Blk w B (v :: zc) T → CallsR Tryd.prog fn #[.pointer (some ⟨B, 0, none⟩)] w fun _ w' => Blk w' B (v :: dc) T ∧ Chg (fun k => k = B) w w'
def NewsPtr (fn : FuncId) (dc : List Value) : Prop := ∀ w : World, CallsR Tryd.prog fn #[] w fun v w' => v = .pointer (some ⟨w.heap.size, 0, none⟩) ∧ Chg (fun _ => False) w w' ∧ ∃ n T, Blk w' w.heap.size (.int .i16 n :: dc) T
theorem newptr_of {fn fd : FuncId} {func : Func} {T ty1 ty2 ty3 ty0 r t1 t2 N : Nat} {r0 r1 r2 r3 : Nat} {q0 q1 q2 q3 : String} {e0 e1 e2 e3 : Array Edge} {us : Array TypeId} {n : Int} (zc dc : List Value)
    (hfn : (Tryd.prog).funcs[fn]? = some func)
    (hbody : func.body = some (.seq (.region r0 #[⟨some r, .assign (.const (.pointer none)), ty0, q0, e0, none⟩] false) (.seq (.region r1 #[⟨some t1, .alloc T, ty1, q1, e1, none⟩] false)
      (.seq (.region r2 #[⟨some t2, .call { callee := .value (.func fd), args := #[.tmp t1], argTypes := us }, ty2, q2, e2, none⟩] false) (.seq (.region r3 #[⟨some r, .assign (.tmp t1), ty3, q3, e3, none⟩] false) .ret)))))
    (hres : func.results = #[.tmp r]) (hN : func.ntmps = N) (hlt : (decide (r < N) && decide (t1 < N) && decide (t1 ≠ t2)) = true) (hz : zeroB Tryd.prog T (aggOf (.int .i16 n :: zc))) (hen : Enters Tryd.prog fd)
    (hdef : DefF fd zc dc) : NewsPtr fn dc := by
  intro w
  simp only [Bool.and_eq_true, decide_eq_true_eq] at hlt
  obtain ⟨⟨l1, l2⟩, l3⟩ := hlt
  refine callsR_of hfn hbody hres hN (by simp) ?_
  intro a hN hD ha
  refine wp_seq_k fun K hK => ?_
  refine wp_reg ?_
  refine wl_assign ?_
  refine wl_nil (hK _ _ ?_)
  clear hK K
  refine wp_seq_k fun K hK => ?_
  refine wp_reg ?_
  refine wl_allocA hz fun w1 hc hb hs => ?_
  refine wl_nil (hK _ _ ?_)
  clear hK K
  refine wp_seq_k fun K hK => ?_
  refine wp_reg ?_
  refine wl_call hen (by simp only [List.map_toArray, List.map_cons, List.map_nil, eval_tmp, size_put, hN, get_put_self, l2]; exact hdef w1 _ (.int .i16 n) T hb) ?_
  rintro v w2 ⟨hb2, hc2⟩
  refine wl_nil (hK _ _ ?_)
  clear hK K
  refine wp_seq_k fun K hK => ?_
  refine wp_reg ?_
  refine wl_assign ?_
  refine wl_nil (hK _ _ ?_)
  refine wp_ret ⟨by simp [defers_put, hD], ?_⟩
  simp only [eval_tmp, size_put, hN, get_put_self, l1, l2, get_put_ne' l3]
  exact ⟨by first | rfl | trivial, hc.trans hc2 fun n hn h => by omega, n, T, hb2⟩
def SetsVersion (fn : FuncId) : Prop := ∀ (w : World) (B : Nat) (cs : List Value) (T : TypeId) (ver : Int), Blk w B cs T → 1 ≤ cs.length →
  CallsR Tryd.prog fn #[.pointer (some ⟨B, 0, none⟩), .int .i16 ver] w fun _ w' => Blk w' B (splice cs 0 [.int .i16 ver]) T ∧ Chg (fun k => k = B) w w'
theorem setver_of {fn : FuncId} {func : Func} {T t4 t5 t6 t7 ty N r0 : Nat} {y0 y1 y2 y3 y4 : TypeId} {q0 q1 q2 q3 q4 : String} {e0 e1 e2 e3 e4 : Array Edge}
    (hfn : (Tryd.prog).funcs[fn]? = some func)
    (hbody : func.body = some (.region r0 #[⟨some t4, .move (.tmp 0), y0, q0, e0, none⟩, ⟨some t5, .move (.tmp 1), y1, q1, e1, none⟩, ⟨some t6, .nilCheck (.tmp t4), y2, q2, e2, none⟩, ⟨some t7, .fieldAddr T (.tmp t6) 0, y3, q3, e3, none⟩, ⟨none, .store ty (.tmp t7) (.tmp t5), y4, q4, e4, none⟩] false))
    (hres : func.results = #[]) (hN : func.ntmps = N) (hB : (fieldB Tryd.prog T 0 0 1 && sizeB Tryd.prog ty 1 && decide ([0, 1, t4, t5, t6, t7].Nodup) && [1, t4, t5, t6, t7].all (fun t => decide (t < N))) = true) : SetsVersion fn := by
  intro w B cs Tb ver hb hlen
  simp only [Bool.and_eq_true, decide_eq_true_eq, List.all_eq_true] at hB
  obtain ⟨⟨⟨b1, b2⟩, hnd⟩, hlt⟩ := hB
  simp only [List.nodup_cons, List.mem_cons, List.not_mem_nil, or_false, not_or, List.nodup_nil, and_true, not_false_eq_true, forall_eq_or_imp, forall_eq] at hnd hlt
  refine callsR_of0 hfn hbody hres hN (by simp; omega) ?_
  intro a hN hD ha
  have h0 : get a 0 = .pointer (some ⟨B, 0, none⟩) := ha 0 _ rfl
  have h1 : get a 1 = .int .i16 ver := ha 1 _ rfl
  refine wp_reg ?_
  refine wl_move ?_
  refine wl_move ?_
  simp only [eval_tmp, eval_const, get_put_self, get_put_ne, get_put_ne', ne_eq, size_put, hN, hnd, hlt, not_false_eq_true, h0, h1]
  refine wl_nilCheck (p := ⟨B, 0, none⟩) (by simp only [eval_tmp, eval_const, get_put_self, get_put_ne, get_put_ne', ne_eq, size_put, hN, hnd, hlt, not_false_eq_true, h0]) ?_
  refine wl_fieldAddr (b := B) (o := 0) b1 (by simp only [eval_tmp, eval_const, get_put_self, get_put_ne, get_put_ne', ne_eq, size_put, hN, hnd, hlt, not_false_eq_true, h0]) ?_
  refine wl_store (b := B) (o := 0 + 0) (n := 1) (v := .int .i16 ver) b2 (by simp only [eval_tmp, eval_const, get_put_self, get_put_ne, get_put_ne', ne_eq, size_put, hN, hnd, hlt, not_false_eq_true, h0]) (by simp only [eval_tmp, eval_const, get_put_self, get_put_ne, get_put_ne', ne_eq, size_put, hN, hnd, hlt, not_false_eq_true, h0]) hb rfl (by intro y hy; simp only [Value.cells, List.mem_singleton] at hy; subst hy; rfl) (by omega) fun w1 hb1 hc1 => ?_
  refine wl_nil ⟨by simp [defers_put, hD], hb1, hc1⟩
theorem maxver_of {fn : FuncId} {func : Func} {r N r0 r1 : Nat} {y0 y1 : TypeId} {q0 q1 : String} {e0 e1 : Array Edge} {k m : Int}
    (hfn : (Tryd.prog).funcs[fn]? = some func)
    (hbody : func.body = some (.seq (.region r0 #[⟨some r, .assign (.const (.int .i16 k)), y0, q0, e0, none⟩] false) (.seq (.region r1 #[⟨some r, .assign (.const (.int .i16 m)), y1, q1, e1, none⟩] false) .ret)))
    (hres : func.results = #[.tmp r]) (hN : func.ntmps = N) (hlt : (decide (r < N) && decide (1 ≤ N)) = true) (x : Value) (w : World) : CallsR Tryd.prog fn #[x] w fun v w' => v = .int .i16 m ∧ w' = w := by
  simp only [Bool.and_eq_true, decide_eq_true_eq] at hlt
  refine callsR_of hfn hbody hres hN (by simpa using hlt.2) ?_
  intro a hN hD ha
  refine wp_seq_k fun K hK => ?_
  refine wp_reg ?_
  refine wl_assign ?_
  refine wl_nil (hK _ _ ?_)
  clear hK K
  refine wp_seq_k fun K hK => ?_
  refine wp_reg ?_
  refine wl_assign ?_
  refine wl_nil (hK _ _ ?_)
  refine wp_ret ⟨by simp [defers_put, hD], ?_, rfl⟩
  simp only [eval_const, size_put, hN, get_put_self, hlt.1]
def AgP (flex : Bool) (ver : Int) (fs : List Fld) (bs : Bs) (w : World) (v : Value) (w' : World) : Prop := Chg (fun _ => False) w w' ∧
  ((decPart flex ver fs bs = none ∧ v = .tuple #[.slice none 0 0, .bool false]) ∨ ∃ s r out, decPart flex ver fs bs = some (s, r) ∧ v = .tuple #[out, .bool true] ∧ Own eB w' w.heap.size out (encPart flex ver fs s))
section
variable {y0 y1 y2 y3 y4 y5 y6 y7 y8 y9 y10 y11 y12 y13 y14 y15 y16 y17 y18 y19 y20 y21 y22 y23 y24 y25 y26 y27 y28 y29 y30 y31 y32 y33 y34 y35 y36 y37 y38 y39 : TypeId} {q0 q1 q2 q3 q4 q5 q6 q7 q8 q9 q10 q11 q12 q13 q14 q15 q16 q17 q18 q19 q20 q21 q22 q23 q24 q25 q26 q27 q28 q29 q30 q31 q32 q33 q34 q35 q36 q37 q38 q39 : String} {e0 e1 e2 e3 e4 e5 e6 e7 e8 e9 e10 e11 e12 e13 e14 e15 e16 e17 e18 e19 e20 e21 e22 e23 e24 e25 e26 e27 e28 e29 e30 e31 e32 e33 e34 e35 e36 e37 e38 e39 : Array Edge} {r0 r1 r2 r3 r4 r5 : Nat}
variable {us us1 us2 us3 us4 : Array TypeId}
def ReadsFrom (fn fr : FuncId) : Prop := ∀ {x y : Value} {w : World} {R : Value → World → Prop}, CallsR Tryd.prog fr #[x, y, .bool false] w R → CallsR Tryd.prog fn #[x, y] w R
theorem again_of {fn fp fv fr frr fa : FuncId} {func : Func} {fl : Bool} {flx : Int → Bool} {fs : List Fld} {dc : List Value}
    (hfn : (Tryd.prog).funcs[fn]? = some func)
    (hbody : func.body = some (.seq (.region r0 #[⟨some 4, .assign (.const (.slice none 0 0)), y0, q0, e0, none⟩, ⟨some 5, .assign (.const (.bool false)), y1, q1, e1, none⟩] false)
      (.seq (.region r1 #[⟨some 7, .call { callee := .value (.func fp), args := #[], argTypes := us }, y2, q2, e2, none⟩, ⟨some 6, .assign (.tmp 7), y3, q3, e3, none⟩] false)
      (.seq (.region r2 #[⟨some 8, .move (.tmp 6), y4, q4, e4, none⟩, ⟨some 9, .move (.tmp 0), y5, q5, e5, none⟩, ⟨some 10, .convert 3 45 (.tmp 9), y6, q6, e6, none⟩, ⟨some 11, .call { callee := .value (.func fv), args := #[.tmp 8, .tmp 10], argTypes := us1 }, y7, q7, e7, none⟩] false)
      (.seq (.seq (.region r3 #[⟨some 12, .move (.tmp 6), y8, q8, e8, none⟩, ⟨some 13, .move (.tmp 1), y9, q9, e9, none⟩, ⟨some 14, .call { callee := .builtin .append, args := #[.const (.slice none 0 0), .tmp 13], argTypes := #[22, 22] }, y10, q10, e10, none⟩, ⟨some 15, .call { callee := .value (.func fr), args := #[.tmp 12, .tmp 14], argTypes := us3 }, y11, q11, e11, none⟩, ⟨some 16, .binOp .neq 51 (.tmp 15) (.const .nilIface) 51, y12, q12, e12, none⟩] false)
        (.cond (.tmp 16) (.seq (.region r4 #[⟨some 4, .assign (.const (.slice none 0 0)), y13, q13, e13, none⟩, ⟨some 5, .assign (.const (.bool false)), y14, q14, e14, none⟩] false) .ret) .skip))
      (.seq (.region r5 #[⟨some 17, .move (.tmp 6), y15, q15, e15, none⟩, ⟨some 18, .call { callee := .value (.func fa), args := #[.tmp 17, .const (.slice none 0 0)], argTypes := us4 }, y16, q16, e16, none⟩, ⟨some 4, .assign (.tmp 18), y17, q17, e17, none⟩, ⟨some 5, .assign (.const (.bool true)), y18, q18, e18, none⟩] false) .ret))))))
    (hres : func.results = #[.tmp 4, .tmp 5]) (hNf : func.ntmps = 19) (ep : Enters Tryd.prog fp) (ev : Enters Tryd.prog fv) (er : Enters Tryd.prog fr) (ea : Enters Tryd.prog fa)
    (hp : NewsPtr fp dc) (hv : SetsVersion fv) (hf : ReadsFrom fr frr) (hr : ReadsF frr fl flx fs dc [.bool false]) (ha : AppendsTo fa fl flx fs)
    {ver : Int} (h0 : 0 ≤ ver) (h1 : ver ≤ 32767) {w : World} {G : Nat → Prop} {oa : Option Addr} {bs : Bs} {cap : Nat} (hsrc : BytesAt w G oa bs) (hlim : bs.length ≤ RLIM) (herr : ErrW w)
    (hout : ∀ s r, decPart (flx ver) ver fs bs = some (s, r) → (encPart (flx ver) ver fs s).length ≤ LIM) :
    CallsR Tryd.prog fn #[.int .i64 ver, .slice oa bs.length cap] w (AgP (flx ver) ver fs bs w) := by
  refine callsR_of2 hfn hbody hres hNf (by simp) ?_
  intro a hN hD hargs
  have g0 : get a 0 = .int .i64 ver := hargs 0 _ rfl
  have g1 : get a 1 = .slice oa bs.length cap := hargs 1 _ rfl
  refine wp_seq_k fun K hK => ?_; refine wp_reg ?_; (repeat ((with_reducible refine wl_p ?_ ?_ ?_); (· simp [evb, pvb, rnb, kb, hN, dyb, sdb] <;> omega); (· kernel_rfl); try simp only [evb, pvb, rnb, kb, hN, Nat.reduceLT, Nat.reduceEqDiff, reduceIte, Int.reduceToNat, Int.reduceBEq, Nat.reduceAdd])); refine wl_nil ?_; refine hK _ _ ?_; clear hK K
  refine wp_seq_k fun K hK => ?_; refine wp_reg ?_
  refine wl_call ep (by simp only [List.map_toArray, List.map_nil]; exact hp w) ?_
  rintro v w1 ⟨rfl, hc1, n, T, hb1⟩
  have hE1 := herr.chg hc1 (fun h => h)
  have hgE := gE_lt herr
  (repeat ((with_reducible refine wl_p ?_ ?_ ?_); (· simp [evb, pvb, rnb, kb, hN, dyb, sdb] <;> omega); (· kernel_rfl); try simp only [evb, pvb, rnb, kb, hN, Nat.reduceLT, Nat.reduceEqDiff, reduceIte, Int.reduceToNat, Int.reduceBEq, Nat.reduceAdd])); refine wl_nil ?_; refine hK _ _ ?_; clear hK K
  refine wp_seq_k fun K hK => ?_; refine wp_reg ?_; (repeat ((with_reducible refine wl_p ?_ ?_ ?_); (· simp [evb, pvb, rnb, kb, hN, g0, dyb, sdb] <;> omega); (· kernel_rfl); try simp only [evb, pvb, rnb, kb, hN, Nat.reduceLT, Nat.reduceEqDiff, reduceIte, Int.reduceToNat, Int.reduceBEq, Nat.reduceAdd, g0]))
  have hi : IntKind.i16.wrap ver = ver := i16_id ver (by omega)
  refine wl_call (R := fun _ w' => Blk w' w.heap.size (splice (.int .i16 n :: dc) 0 [.int .i16 ver]) T ∧ Chg (fun k => k = w.heap.size) w1 w') ev (by
    simp only [List.map_toArray, List.map_cons, List.map_nil, evb, kb, hN, Nat.reduceLT, Nat.reduceEqDiff, reduceIte, Int.reduceToNat, Int.reduceBEq, g0, hi, cvt]
    exact hv w1 w.heap.size _ T ver hb1 (by simp)) ?_
  rintro v w2 ⟨hb2, hc2⟩
  have hc12 : Chg (fun _ => False) w w2 := hc1.trans hc2 fun n hn h => by omega
  have hE2 := hE1.chg hc2 (fun h => by omega)
  have e2 : splice (.int .i16 n :: dc) 0 [.int .i16 ver] = .int .i16 ver :: dc := by simp [splice]
  rw [e2] at hb2
  refine wl_nil ?_; refine hK _ _ ?_; clear hK K
  refine wp_seq_k fun K hK => ?_; refine wp_seq_k fun K0 hK0 => ?_; refine wp_reg ?_; (repeat ((with_reducible refine wl_p ?_ ?_ ?_); (· simp [evb, pvb, rnb, kb, hN, g1, dyb, sdb] <;> omega); (· kernel_rfl); try simp only [evb, pvb, rnb, kb, hN, Nat.reduceLT, Nat.reduceEqDiff, reduceIte, Int.reduceToNat, Int.reduceBEq, Nat.reduceAdd, g1]))
  have hs2 := hb2.lt
  refine wl_append (t := 22) (e := 5) (base := w2.heap.size) (v := .slice none 0 0) (bs := []) (bs' := bs) (oa := oa) (c := cap) bT (by simp only [evb, kb, hN, Nat.reduceLT, Nat.reduceEqDiff, reduceIte, Int.reduceToNat, Int.reduceBEq]) (by simp only [evb, kb, hN, Nat.reduceLT, Nat.reduceEqDiff, reduceIte, Int.reduceToNat, Int.reduceBEq, g1]) (Own.nil _ _ _) (hsrc.chg hc12 fun _ _ _ h => h) (by unfold LIM; unfold RLIM at hlim; simp only [List.length_nil]; omega) (Nat.le_refl _) ?_
  intro v3 w3 happ
  have hc3 : Chg (fun _ => False) w2 w3 := happ.chg.mono fun n hn hk => by simp [Value.ownBlock] at hk
  obtain ⟨oa3, cap3, rfl, hcap3, hbs3⟩ := happ.own.bytes
  have hE3 := hE2.chg hc3 (fun h => h)
  have hb3 := hb2.chg hc3 (fun h => h)
  have hc13 : Chg (fun _ => False) w w3 := hc12.trans hc3 fun _ _ h => h
  have hs3 := hc3.size
  have hown := happ.own
  rw [List.nil_append] at hcap3 hbs3 hown ⊢
  have hne : ∀ g, Value.ownBlock (.slice oa3 bs.length cap3) = some g → g ≠ w.heap.size := by
    intro g hg
    rcases hown.2 with ⟨h, _⟩ | ⟨g', c', cur, h, hbg, _⟩
    · rw [h] at hg; simp [Value.ownBlock] at hg
    · rw [h] at hg; simp [Value.ownBlock] at hg; omega
  refine wl_call (R := ReadP w3 fl (flx ver) ver fs w.heap.size bs) er (by
    simp only [List.map_toArray, List.map_cons, List.map_nil, evb, kb, hN, Nat.reduceLT, Nat.reduceEqDiff, reduceIte, Int.reduceToNat, Int.reduceBEq]
    exact hf (hr ver w3 w.heap.size T oa3 bs cap3 h0 hb3 (hbs3.mono fun g hg _ => hne g hg) hcap3 hlim (by omega) hE3)) ?_
  rintro v4 w4 ⟨hc4, hq⟩
  have hc14 : Chg (fun _ => False) w w4 := hc13.trans hc4 fun n hn h => by omega
  rcases hq with ⟨hd, t, x, rfl⟩ | ⟨s, r, hd, rfl, hat, cs, T4, hb4, hcs⟩
  · refine wl_neqNil1 (ti := t) (v := x) (by kernel_rfl) (by simp only [evb, kb, hN, Nat.reduceLT, Nat.reduceEqDiff, reduceIte, Int.reduceToNat, Int.reduceBEq]) ?_
    refine wl_nil ?_
    refine hK0 _ _ ?_; try clear hK0 K0
    refine wp_cond_true (by simp [evb, kb, hN, sdb]) ?_
    refine wp_seq_k fun K hK => ?_; refine wp_reg ?_; (repeat ((with_reducible refine wl_p ?_ ?_ ?_); (· simp [evb, pvb, rnb, kb, hN, dyb, sdb] <;> omega); (· kernel_rfl); try simp only [evb, pvb, rnb, kb, hN, Nat.reduceLT, Nat.reduceEqDiff, reduceIte, Int.reduceToNat, Int.reduceBEq, Nat.reduceAdd])); refine wl_nil ?_; refine hK _ _ ?_; clear hK K; refine wp_ret ⟨by simp [defers_put, hD], ?_⟩; simp only [evb, kb, hN, Nat.reduceLT, Nat.reduceEqDiff, reduceIte, Int.reduceToNat, Int.reduceBEq]
    exact ⟨hc14, .inl ⟨hd, by simp [evb, kb, hN, Nat.reduceLT, Nat.reduceEqDiff, reduceIte, Int.reduceToNat, Int.reduceBEq]⟩⟩
  · refine wl_neqNil0 (by kernel_rfl) (by simp only [evb, kb, hN, Nat.reduceLT, Nat.reduceEqDiff, reduceIte, Int.reduceToNat, Int.reduceBEq]) ?_
    refine wl_nil ?_
    refine hK0 _ _ ?_; try clear hK0 K0
    refine wp_cond_false (by simp [evb, kb, hN, sdb]) ?_
    refine wp_skip ?_
    refine hK _ _ ?_
    clear hK K
    refine wp_seq_k fun K hK => ?_; refine wp_reg ?_; (repeat ((with_reducible refine wl_p ?_ ?_ ?_); (· simp [evb, pvb, rnb, kb, hN, dyb, sdb] <;> omega); (· kernel_rfl); try simp only [evb, pvb, rnb, kb, hN, Nat.reduceLT, Nat.reduceEqDiff, reduceIte, Int.reduceToNat, Int.reduceBEq, Nat.reduceAdd]))
    have hB4 := hb4.lt
    refine wl_call (R := App eB w4 w4.heap.size (.slice none 0 0) ([] ++ encPart (flx ver) ver fs s)) ea (by
      simp only [List.map_toArray, List.map_cons, List.map_nil, evb, kb, hN, Nat.reduceLT, Nat.reduceEqDiff, reduceIte, Int.reduceToNat, Int.reduceBEq]
      exact ha s ver w.heap.size w4 w4.heap.size (.slice none 0 0) [] h0 ⟨cs, T4, hb4, hcs⟩ (hat.stay (Stay.sub fun k hk _ => hk) rfl) hB4 (Nat.le_refl _) (Own.nil _ _ _) (by have := hout s r hd; simpa using this)) ?_
    intro v5 w5 happ5
    (repeat ((with_reducible refine wl_p ?_ ?_ ?_); (· simp [evb, pvb, rnb, kb, hN, dyb, sdb] <;> omega); (· kernel_rfl); try simp only [evb, pvb, rnb, kb, hN, Nat.reduceLT, Nat.reduceEqDiff, reduceIte, Int.reduceToNat, Int.reduceBEq, Nat.reduceAdd])); refine wl_nil ?_; refine hK _ _ ?_; clear hK K; refine wp_ret ⟨by simp [defers_put, hD], ?_⟩; simp only [evb, kb, hN, Nat.reduceLT, Nat.reduceEqDiff, reduceIte, Int.reduceToNat, Int.reduceBEq]
    have hc5 : Chg (fun _ => False) w4 w5 := happ5.chg.mono fun n hn hk => by simp [Value.ownBlock] at hk
    refine ⟨hc14.trans hc5 fun _ _ h => h, .inr ⟨s, r, v5, hd, by simp [evb, kb, hN, Nat.reduceLT, Nat.reduceEqDiff, reduceIte, Int.reduceToNat, Int.reduceBEq], ?_⟩⟩
    have := happ5.own
    rw [List.nil_append] at this
    exact this.mono hc14.size
end
end Go.Proofs.YtgjnllebnkjofaaDoor
namespace Go.Proofs.YtgjnllebnkjofaaDoor
set_option linter.all false
open Go.RowKit
set_option maxRecDepth 10000
set_option maxHeartbeats 1000000
def trLen : Tr → Nat | .mk _ _ _ _ t => t.length
def IsBool (w : World) (v : Value) (w' : World) : Prop := (∃ b, v = .bool b) ∧ Chg (fun _ => False) w w'
theorem fits4_c (x : Nat × Bs) {w : World} {ob : Option Addr} {cb : Nat} : CallsR Tryd.prog 33 #[aggOf [.int .u32 x.1, .slice ob x.2.length cb]] w (IsBool w) := by
  refine callsR_of Tryd.func33 rfl rfl Tryd.ntmps33 (by simp) ?_
  intro a hN hD ha
  have h0 : get a 0 = aggOf [.int .u32 x.1, .slice ob x.2.length cb] := ha 0 _ rfl
  refine wp_seq_k fun K hK => ?_; refine wp_reg ?_
  refine wl_boxA (l := [.int .u32 x.1, .slice ob x.2.length cb]) (by simp [evb, kb, hN, h0, sdb]) fun w1 hc hb hs => ?_
  have l1 := hb.ld (i := 1) rfl
  (repeat ((with_reducible refine wl_p ?_ ?_ ?_); (· simp [evb, pvb, rnb, kb, hN, dyb, sdb] <;> omega); (· kernel_rfl); try simp only [evb, pvb, rnb, kb, hN, Nat.reduceLT, Nat.reduceEqDiff, reduceIte, Int.reduceToNat, Int.reduceBEq, Nat.reduceAdd])); refine wl_nil ?_; refine hK _ _ ?_; clear hK K
  refine wp_seq_k fun K hK => ?_; refine wp_seq_k fun K0 hK0 => ?_; refine wp_reg ?_
  have f2 : fOff Tryd.prog 65 1 = 1 := by kernel_rfl
  (repeat ((with_reducible refine wl_p ?_ ?_ ?_); (· simp [evb, pvb, rnb, kb, hN, l1, f2, dyb, sdb] <;> omega); (· kernel_rfl); try simp only [evb, pvb, rnb, kb, hN, Nat.reduceLT, Nat.reduceEqDiff, reduceIte, Int.reduceToNat, Int.reduceBEq, Nat.reduceAdd, l1, f2]))
  refine wl_nil ?_
  refine hK0 _ _ ?_; try clear hK0 K0
  by_cases hl : (2147483647 : Int) < x.2.length
  · refine wp_cond_true (by simp [evb, kb, hN, hl, sdb]) ?_
    refine wp_seq_k fun K hK => ?_; refine wp_reg ?_; (repeat ((with_reducible refine wl_p ?_ ?_ ?_); (· simp [evb, pvb, rnb, kb, hN, dyb, sdb] <;> omega); (· kernel_rfl); try simp only [evb, pvb, rnb, kb, hN, Nat.reduceLT, Nat.reduceEqDiff, reduceIte, Int.reduceToNat, Int.reduceBEq, Nat.reduceAdd])); refine wl_nil ?_; refine hK _ _ ?_; clear hK K; refine wp_ret ⟨by simp [defers_put, hD], ?_⟩; simp only [evb, kb, hN, Nat.reduceLT, Nat.reduceEqDiff, reduceIte, Int.reduceToNat, Int.reduceBEq]
    exact ⟨⟨_, rfl⟩, hc⟩
  · refine wp_cond_false (by simp [evb, kb, hN, hl, sdb]) ?_
    refine wp_skip ?_
    refine hK _ _ ?_
    clear hK K
    refine wp_seq_k fun K hK => ?_; refine wp_reg ?_; (repeat ((with_reducible refine wl_p ?_ ?_ ?_); (· simp [evb, pvb, rnb, kb, hN, dyb, sdb] <;> omega); (· kernel_rfl); try simp only [evb, pvb, rnb, kb, hN, Nat.reduceLT, Nat.reduceEqDiff, reduceIte, Int.reduceToNat, Int.reduceBEq, Nat.reduceAdd])); refine wl_nil ?_; refine hK _ _ ?_; clear hK K; refine wp_ret ⟨by simp [defers_put, hD], ?_⟩; simp only [evb, kb, hN, Nat.reduceLT, Nat.reduceEqDiff, reduceIte, Int.reduceToNat, Int.reduceBEq]
    exact ⟨⟨_, rfl⟩, hc⟩
theorem fits3_c (t : Tags) (hlim : t.length ≤ 1099511627776) {w : World} {G : Nat → Prop} {vt : Value} (ht : TgS w G t vt) : CallsR Tryd.prog 18 #[vt] w (IsBool w) := by
  obtain ⟨ot, ct, rfl, hct, htl⟩ := ht
  refine callsR_of Tryd.func18 rfl rfl Tryd.ntmps18 (by simp) ?_
  intro a hN hD ha
  have h0 : get a 0 = .slice ot t.length ct := ha 0 _ rfl
  refine wp_seq_k fun K hK => ?_; refine wp_reg ?_; (repeat ((with_reducible refine wl_p ?_ ?_ ?_); (· simp [evb, pvb, rnb, kb, hN, dyb, sdb] <;> omega); (· kernel_rfl); try simp only [evb, pvb, rnb, kb, hN, Nat.reduceLT, Nat.reduceEqDiff, reduceIte, Int.reduceToNat, Int.reduceBEq, Nat.reduceAdd])); refine wl_nil ?_; refine hK _ _ ?_; clear hK K
  refine wp_seq_k fun K hK => ?_; refine wp_seq_k fun K0 hK0 => ?_; refine wp_reg ?_
  (repeat ((with_reducible refine wl_p ?_ ?_ ?_); (· simp [evb, pvb, rnb, kb, hN, h0, dyb, sdb] <;> omega); (· kernel_rfl); try simp only [evb, pvb, rnb, kb, hN, Nat.reduceLT, Nat.reduceEqDiff, reduceIte, Int.reduceToNat, Int.reduceBEq, Nat.reduceAdd, h0]))
  refine wl_nil ?_
  refine hK0 _ _ ?_; try clear hK0 K0
  by_cases hl : (2147483647 : Int) < t.length
  · refine wp_cond_true (by simp [evb, kb, hN, hl, sdb]) ?_
    refine wp_seq_k fun K hK => ?_; refine wp_reg ?_; (repeat ((with_reducible refine wl_p ?_ ?_ ?_); (· simp [evb, pvb, rnb, kb, hN, dyb, sdb] <;> omega); (· kernel_rfl); try simp only [evb, pvb, rnb, kb, hN, Nat.reduceLT, Nat.reduceEqDiff, reduceIte, Int.reduceToNat, Int.reduceBEq, Nat.reduceAdd])); refine wl_nil ?_; refine hK _ _ ?_; clear hK K; refine wp_ret ⟨by simp [defers_put, hD], ?_⟩; simp only [evb, kb, hN, Nat.reduceLT, Nat.reduceEqDiff, reduceIte, Int.reduceToNat, Int.reduceBEq]
    exact ⟨⟨_, rfl⟩, Chg.refl _ _⟩
  refine wp_cond_false (by simp [evb, kb, hN, hl, sdb]) ?_
  refine wp_skip ?_
  refine hK _ _ ?_
  clear hK K
  refine wp_seq_k fun K0 hK0 => ?_; refine wp_seq_k fun K hK => ?_; refine wp_reg ?_; (repeat ((with_reducible refine wl_p ?_ ?_ ?_); (· simp [evb, pvb, rnb, kb, hN, h0, dyb, sdb] <;> omega); (· kernel_rfl); try simp only [evb, pvb, rnb, kb, hN, Nat.reduceLT, Nat.reduceEqDiff, reduceIte, Int.reduceToNat, Int.reduceBEq, Nat.reduceAdd, h0])); refine wl_nil ?_; refine hK _ _ ?_; clear hK K
  refine wp_range (n := t.length) (fun i a' w' => a'.tmps.size = 18 ∧ a'.defers = [] ∧ get a' 8 = .slice ot t.length ct ∧ Chg (fun _ => False) w w') 18 (by omega)
    (by simp only [evb, kb, hN, Nat.reduceLT, Nat.reduceEqDiff, reduceIte, Int.reduceToNat, Int.reduceBEq]; try rfl) (by simp only [evb, kb, hN, Nat.reduceLT, Nat.reduceEqDiff, reduceIte, Int.reduceToNat, Int.reduceBEq]) ⟨by simp only [evb, kb, hN, Nat.reduceLT, Nat.reduceEqDiff, reduceIte, Int.reduceToNat, Int.reduceBEq], by simp [defers_put, hD], by simp only [evb, kb, hN, Nat.reduceLT, Nat.reduceEqDiff, reduceIte, Int.reduceToNat, Int.reduceBEq, h0], Chg.refl _ _⟩ ?_ ?_ (by decide) ?_ ?_
  · rintro i a w ⟨h, _⟩; exact h
  · rintro i a w v u ht ⟨k1, k2, k3, k4⟩
    rcases ht with rfl | rfl | rfl <;> exact ⟨by rw [size_put]; exact k1, by rw [defers_put]; exact k2, by rw [get_put_ne (by decide)]; exact k3, k4⟩
  · clear hN hD
    rintro i a1 w2 hi ⟨hN, hD, g8, hc2⟩ g9 g10
    have hx : t[i]? = some t[i] := by simp [hi]
    generalize t[i] = x at hx
    rcases htl with rfl | ⟨b, o, cs, T, rfl, hGb, hb, htl⟩
    · simp at hi
    obtain ⟨hcx, hlx⟩ := htl.get hx
    obtain ⟨ob, cb, hx1, hx2, hx3, hx4⟩ := hcx
    have hb2 : Rbk w2 b cs T := hb.chg hc2 (fun h => h)
    refine wp_seq_k fun K hK => ?_; refine wp_reg ?_
    refine wl_indexAddr (b := b) (o := o) (k := .i64) (i := i) (n := 2) (len := t.length) (cap := ct) (by kernel_rfl) (by simp [evb, kb, hN, g8, sdb]) (by simp [evb, kb, hN, g10, sdb]) hi ?_
    rw [List.length_drop] at hlx
    refine wl_loadAgg_r (b := b) (o := o + i * 2) (n := 2) (by kernel_rfl) (by kernel_rfl) (by simp [evb, kb, hN, sdb]) hb2 (by omega) ?_
    rw [List.drop_drop] at hx1
    rw [hx1]
    refine wl_allocA (z := aggOf [.int .u32 0, .slice none 0 0]) (fun w => Tryd.zeroValue65 w) fun w3 hc3 hb3 hs3 => ?_
    refine wl_storeAll (b := w2.heap.size) (n := 2) (l' := [.int .u32 x.1, .slice ob x.2.length cb]) (by kernel_rfl) (by simp [evb, kb, hN, sdb]) (by simp [evb, kb, hN, sdb]; rfl) hb3 rfl (by intro y hy; simp only [List.mem_cons, List.not_mem_nil, or_false] at hy; rcases hy with rfl | rfl <;> rfl) rfl fun w4 hb4 hc4 => ?_
    have hc24 : Chg (fun _ => False) w2 w4 := hc3.trans hc4 fun n hn h => by omega
    refine wl_nil ?_; refine hK _ _ ?_; clear hK K
    refine wp_seq_k fun K1 hK1 => ?_; refine wp_reg ?_
    refine wl_loadAgg (b := w2.heap.size) (o := 0) (n := 2) (by kernel_rfl) (by kernel_rfl) (by simp [evb, kb, hN, sdb]) hb4 (Nat.le_refl _) ?_
    refine wl_call (fun args w => Tryd.call33 args w) (by simp only [List.map_toArray, List.map_cons, List.map_nil, evb, kb, hN, Nat.reduceLT, Nat.reduceEqDiff, reduceIte, Int.reduceToNat, Int.reduceBEq]; exact fits4_c x) ?_
    rintro v w5 ⟨⟨bb, rfl⟩, hc5⟩
    have hcw5 : Chg (fun _ => False) w w5 := (hc2.trans hc24 fun _ _ h => h).trans hc5 fun _ _ h => h
    (repeat ((with_reducible refine wl_p ?_ ?_ ?_); (· simp [evb, pvb, rnb, kb, hN, dyb, sdb] <;> omega); (· kernel_rfl); try simp only [evb, pvb, rnb, kb, hN, Nat.reduceLT, Nat.reduceEqDiff, reduceIte, Int.reduceToNat, Int.reduceBEq, Nat.reduceAdd]))
    refine wl_nil ?_
    refine hK1 _ _ ?_; try clear hK1 K1
    cases bb
    · refine wp_cond_true (by simp [evb, kb, hN, sdb]) ?_
      refine wp_seq_k fun K hK => ?_; refine wp_reg ?_; (repeat ((with_reducible refine wl_p ?_ ?_ ?_); (· simp [evb, pvb, rnb, kb, hN, dyb, sdb] <;> omega); (· kernel_rfl); try simp only [evb, pvb, rnb, kb, hN, Nat.reduceLT, Nat.reduceEqDiff, reduceIte, Int.reduceToNat, Int.reduceBEq, Nat.reduceAdd])); refine wl_nil ?_; refine hK _ _ ?_; clear hK K; refine wp_ret ⟨by simp [defers_put, hD], ?_⟩; simp only [evb, kb, hN, Nat.reduceLT, Nat.reduceEqDiff, reduceIte, Int.reduceToNat, Int.reduceBEq]
      exact ⟨⟨_, rfl⟩, hcw5⟩
    · refine wp_cond_false (by simp [evb, kb, hN, sdb]) ?_
      refine wp_skip ?_
      exact ⟨⟨by simp only [evb, kb, hN, Nat.reduceLT, Nat.reduceEqDiff, reduceIte, Int.reduceToNat, Int.reduceBEq], by simp [defers_put, hD], by simp only [evb, kb, hN, Nat.reduceLT, Nat.reduceEqDiff, reduceIte, Int.reduceToNat, Int.reduceBEq, g8], hcw5⟩, by simp only [evb, kb, hN, Nat.reduceLT, Nat.reduceEqDiff, reduceIte, Int.reduceToNat, Int.reduceBEq, g9], by simp only [evb, kb, hN, Nat.reduceLT, Nat.reduceEqDiff, reduceIte, Int.reduceToNat, Int.reduceBEq, g10]⟩
  · rintro a w2 ⟨hN, hD, g8, hc2⟩
    refine hK0 _ _ ?_
    clear hK0 K0
    refine wp_seq_k fun K hK => ?_; refine wp_reg ?_; (repeat ((with_reducible refine wl_p ?_ ?_ ?_); (· simp [evb, pvb, rnb, kb, hN, dyb, sdb] <;> omega); (· kernel_rfl); try simp only [evb, pvb, rnb, kb, hN, Nat.reduceLT, Nat.reduceEqDiff, reduceIte, Int.reduceToNat, Int.reduceBEq, Nat.reduceAdd])); refine wl_nil ?_; refine hK _ _ ?_; clear hK K; refine wp_ret ⟨by simp [defers_put, hD], ?_⟩; simp only [evb, kb, hN, Nat.reduceLT, Nat.reduceEqDiff, reduceIte, Int.reduceToNat, Int.reduceBEq]
    exact ⟨⟨_, rfl⟩, hc2⟩
theorem fits2_c (v : Tr) (hlim : trLen v ≤ 1099511627776) {w : World} {G : Nat → Prop} {ts : List Value} (hv : TrC w G v ts) : CallsR Tryd.prog 6 #[aggOf ts] w (IsBool w) := by
  cases v with
  | mk n b nil l t =>
  unfold TrC at hv
  obtain ⟨ob, cb, ol, cl, vt, rfl, hv1, hv2, hv3, hv4, hv5, hv6⟩ := hv
  unfold trLen at hlim
  refine callsR_of Tryd.func6 rfl rfl Tryd.ntmps6 (by simp) ?_
  intro a hN hD ha
  have h0 : get a 0 = aggOf [.int .i64 n, .slice ob b.length cb, .bool nil, .slice ol l.length cl, vt] := ha 0 _ rfl
  refine wp_seq_k fun K hK => ?_; refine wp_reg ?_
  refine wl_boxA (l := [.int .i64 n, .slice ob b.length cb, .bool nil, .slice ol l.length cl, vt]) (by simp [evb, kb, hN, h0, sdb]) fun w1 hc hb hs => ?_
  have l1 := hb.ld (i := 1) rfl
  have l3 := hb.ld (i := 3) rfl
  have l4 := hb.ld (i := 4) rfl
  have f1 : fOff Tryd.prog 26 1 = 1 := by kernel_rfl
  have f3 : fOff Tryd.prog 26 3 = 3 := by kernel_rfl
  have f4 : fOff Tryd.prog 26 4 = 4 := by kernel_rfl
  (repeat ((with_reducible refine wl_p ?_ ?_ ?_); (· simp [evb, pvb, rnb, kb, hN, dyb, sdb] <;> omega); (· kernel_rfl); try simp only [evb, pvb, rnb, kb, hN, Nat.reduceLT, Nat.reduceEqDiff, reduceIte, Int.reduceToNat, Int.reduceBEq, Nat.reduceAdd])); refine wl_nil ?_; refine hK _ _ ?_; clear hK K
  refine wp_seq_k fun K hK => ?_; refine wp_seq_k fun K0 hK0 => ?_; refine wp_reg ?_
  (repeat ((with_reducible refine wl_p ?_ ?_ ?_); (· simp [evb, pvb, rnb, kb, hN, l1, f1, dyb, sdb] <;> omega); (· kernel_rfl); try simp only [evb, pvb, rnb, kb, hN, Nat.reduceLT, Nat.reduceEqDiff, reduceIte, Int.reduceToNat, Int.reduceBEq, Nat.reduceAdd, l1, f1]))
  refine wl_nil ?_
  refine hK0 _ _ ?_; try clear hK0 K0
  by_cases hl : (2147483647 : Int) < b.length
  · refine wp_cond_true (by simp [evb, kb, hN, hl, sdb]) ?_
    refine wp_seq_k fun K hK => ?_; refine wp_reg ?_; (repeat ((with_reducible refine wl_p ?_ ?_ ?_); (· simp [evb, pvb, rnb, kb, hN, dyb, sdb] <;> omega); (· kernel_rfl); try simp only [evb, pvb, rnb, kb, hN, Nat.reduceLT, Nat.reduceEqDiff, reduceIte, Int.reduceToNat, Int.reduceBEq, Nat.reduceAdd])); refine wl_nil ?_; refine hK _ _ ?_; clear hK K; refine wp_ret ⟨by simp [defers_put, hD], ?_⟩; simp only [evb, kb, hN, Nat.reduceLT, Nat.reduceEqDiff, reduceIte, Int.reduceToNat, Int.reduceBEq]
    exact ⟨⟨_, rfl⟩, hc⟩
  refine wp_cond_false (by simp [evb, kb, hN, hl, sdb]) ?_
  refine wp_skip ?_
  refine hK _ _ ?_
  clear hK K hl
  refine wp_seq_k fun K hK => ?_; refine wp_seq_k fun K0 hK0 => ?_; refine wp_reg ?_
  (repeat ((with_reducible refine wl_p ?_ ?_ ?_); (· simp [evb, pvb, rnb, kb, hN, l3, f3, dyb, sdb] <;> omega); (· kernel_rfl); try simp only [evb, pvb, rnb, kb, hN, Nat.reduceLT, Nat.reduceEqDiff, reduceIte, Int.reduceToNat, Int.reduceBEq, Nat.reduceAdd, l3, f3]))
  refine wl_nil ?_
  refine hK0 _ _ ?_; try clear hK0 K0
  by_cases hl : (2147483647 : Int) < l.length
  · refine wp_cond_true (by simp [evb, kb, hN, hl, sdb]) ?_
    refine wp_seq_k fun K hK => ?_; refine wp_reg ?_; (repeat ((with_reducible refine wl_p ?_ ?_ ?_); (· simp [evb, pvb, rnb, kb, hN, dyb, sdb] <;> omega); (· kernel_rfl); try simp only [evb, pvb, rnb, kb, hN, Nat.reduceLT, Nat.reduceEqDiff, reduceIte, Int.reduceToNat, Int.reduceBEq, Nat.reduceAdd])); refine wl_nil ?_; refine hK _ _ ?_; clear hK K; refine wp_ret ⟨by simp [defers_put, hD], ?_⟩; simp only [evb, kb, hN, Nat.reduceLT, Nat.reduceEqDiff, reduceIte, Int.reduceToNat, Int.reduceBEq]
    exact ⟨⟨_, rfl⟩, hc⟩
  refine wp_cond_false (by simp [evb, kb, hN, hl, sdb]) ?_
  refine wp_skip ?_
  refine hK _ _ ?_
  clear hK K hl
  refine wp_seq_k fun K hK => ?_; refine wp_seq_k fun K0 hK0 => ?_; refine wp_reg ?_
  (repeat ((with_reducible refine wl_p ?_ ?_ ?_); (· simp [evb, pvb, rnb, kb, hN, l4, f4, dyb, sdb] <;> omega); (· kernel_rfl); try simp only [evb, pvb, rnb, kb, hN, Nat.reduceLT, Nat.reduceEqDiff, reduceIte, Int.reduceToNat, Int.reduceBEq, Nat.reduceAdd, l4, f4]))
  refine wl_call (fun args w => Tryd.call18 args w) (by simp only [List.map_toArray, List.map_cons, List.map_nil, evb, kb, hN, Nat.reduceLT, Nat.reduceEqDiff, reduceIte, Int.reduceToNat, Int.reduceBEq]; exact fits3_c t hlim (hv6.stay (Stay.none hc))) ?_
  rintro v w5 ⟨⟨bb, rfl⟩, hc5⟩
  have hcw5 : Chg (fun _ => False) w w5 := hc.trans hc5 fun _ _ h => h
  (repeat ((with_reducible refine wl_p ?_ ?_ ?_); (· simp [evb, pvb, rnb, kb, hN, dyb, sdb] <;> omega); (· kernel_rfl); try simp only [evb, pvb, rnb, kb, hN, Nat.reduceLT, Nat.reduceEqDiff, reduceIte, Int.reduceToNat, Int.reduceBEq, Nat.reduceAdd]))
  refine wl_nil ?_
  refine hK0 _ _ ?_; try clear hK0 K0
  cases bb
  · refine wp_cond_true (by simp [evb, kb, hN, sdb]) ?_
    refine wp_seq_k fun K hK => ?_; refine wp_reg ?_; (repeat ((with_reducible refine wl_p ?_ ?_ ?_); (· simp [evb, pvb, rnb, kb, hN, dyb, sdb] <;> omega); (· kernel_rfl); try simp only [evb, pvb, rnb, kb, hN, Nat.reduceLT, Nat.reduceEqDiff, reduceIte, Int.reduceToNat, Int.reduceBEq, Nat.reduceAdd])); refine wl_nil ?_; refine hK _ _ ?_; clear hK K; refine wp_ret ⟨by simp [defers_put, hD], ?_⟩; simp only [evb, kb, hN, Nat.reduceLT, Nat.reduceEqDiff, reduceIte, Int.reduceToNat, Int.reduceBEq]
    exact ⟨⟨_, rfl⟩, hcw5⟩
  · refine wp_cond_false (by simp [evb, kb, hN, sdb]) ?_
    refine wp_skip ?_
    refine hK _ _ ?_
    clear hK K
    refine wp_seq_k fun K hK => ?_; refine wp_reg ?_; (repeat ((with_reducible refine wl_p ?_ ?_ ?_); (· simp [evb, pvb, rnb, kb, hN, dyb, sdb] <;> omega); (· kernel_rfl); try simp only [evb, pvb, rnb, kb, hN, Nat.reduceLT, Nat.reduceEqDiff, reduceIte, Int.reduceToNat, Int.reduceBEq, Nat.reduceAdd])); refine wl_nil ?_; refine hK _ _ ?_; clear hK K; refine wp_ret ⟨by simp [defers_put, hD], ?_⟩; simp only [evb, kb, hN, Nat.reduceLT, Nat.reduceEqDiff, reduceIte, Int.reduceToNat, Int.reduceBEq]
    exact ⟨⟨_, rfl⟩, hcw5⟩
end Go.Proofs.YtgjnllebnkjofaaDoor
namespace Go.Proofs.YtgjnllebnkjofaaDoor
set_option linter.all false
open Go.RowKit
set_option maxRecDepth 10000
set_option maxHeartbeats 2000000
theorem tgBulk_len : ∀ t : Tags, t.length ≤ tgBulk t
  | [] => Nat.zero_le _
  | x :: r => by have := tgBulk_len r; unfold tgBulk; simp only [List.length_cons]; omega
theorem trBulkL_len : ∀ l : List Tr, l.length ≤ trBulkL l
  | [] => Nat.zero_le _
  | x :: r => by have := trBulkL_len r; have := trBulk_pos x; unfold trBulkL; simp only [List.length_cons]; omega
mutual
theorem trok_bulk : ∀ {v : Tr}, trBulk v ≤ LIM → TROK v
  | .mk n b e l t, h => by
    unfold trBulk at h
    have := tgBulk_len t
    have := trBulkL_len l
    unfold TROK
    exact ⟨trivial, by omega, by omega, by omega, trok_bulkL (by omega)⟩
theorem trok_bulkL : ∀ {l : List Tr}, trBulkL l ≤ LIM → TRLOK l
  | [], _ => by unfold TRLOK; trivial
  | x :: r, h => by
    unfold trBulkL at h
    unfold TRLOK
    exact ⟨trok_bulk (by omega), trok_bulkL (by omega)⟩
end
theorem trLen_bulk (v : Tr) : trLen v ≤ trBulk v := by
  cases v with
  | mk n b e l t => have := tgBulk_len t; unfold trLen trBulk; dsimp only; omega
def MaxIs (fn : FuncId) (k : Nat) : Prop := ∀ w : World, CallsR Tryd.prog fn #[] w fun v w' => v = .int .i64 k ∧ Chg (fun _ => False) w w'
def AgC (fn : FuncId) (flx : Int → Bool) (k : Nat) (fs : List Fld) : Prop := ∀ (ver : Int), 0 ≤ ver → ver ≤ k → ∀ (w : World) (G : Nat → Prop) (oa : Option Addr) (bs : Bs) (cap : Nat), BytesAt w G oa bs → bs.length ≤ RLIM → ErrW w →
  (∀ s r, decPart (flx ver) ver fs bs = some (s, r) → (encPart (flx ver) ver fs s).length ≤ LIM) → CallsR Tryd.prog fn #[.int .i64 ver, .slice oa bs.length cap] w (AgP (flx ver) ver fs bs w)
def schB (flx : Int → Bool) (k : Nat) (fs : List Fld) : Bool := okL fs && plainL fs && decide (fs.length ≤ 1073741824) && decide (kL fs + 6 ≤ 1024) && (List.range (k + 1)).all fun v => goodL (flx v) v fs
structure SchOK (flx : Int → Bool) (k : Nat) (fs : List Fld) : Prop where
  ok : okL fs = true
  plain : plainL fs = true
  len : fs.length ≤ 1073741824
  room : kL fs + 6 ≤ 1024
  good : ∀ ver : Int, 0 ≤ ver → ver ≤ k → goodL (flx ver) ver fs = true
theorem schB_out {flx : Int → Bool} {k : Nat} {fs : List Fld} (h : schB flx k fs = true) : SchOK flx k fs := by
  unfold schB at h
  simp only [Bool.and_eq_true, decide_eq_true_eq, List.all_eq_true, List.mem_range] at h
  obtain ⟨⟨⟨⟨h1, h2⟩, h3⟩, h4⟩, h5⟩ := h
  refine ⟨h1, h2, h3, h4, fun ver h0 hk => ?_⟩
  have := h5 ver.toNat (by omega)
  rwa [Int.toNat_of_nonneg h0] at this
section
variable {y0 y1 y2 y3 y4 y5 y6 y7 y8 y9 y10 y11 y12 y13 y14 y15 y16 y17 y18 y19 y20 y21 y22 y23 y24 y25 y26 y27 y28 y29 y30 y31 y32 y33 y34 y35 y36 y37 y38 y39 : TypeId} {q0 q1 q2 q3 q4 q5 q6 q7 q8 q9 q10 q11 q12 q13 q14 q15 q16 q17 q18 q19 q20 q21 q22 q23 q24 q25 q26 q27 q28 q29 q30 q31 q32 q33 q34 q35 q36 q37 q38 q39 : String} {e0 e1 e2 e3 e4 e5 e6 e7 e8 e9 e10 e11 e12 e13 e14 e15 e16 e17 e18 e19 e20 e21 e22 e23 e24 e25 e26 e27 e28 e29 e30 e31 e32 e33 e34 e35 e36 e37 e38 e39 : Array Edge} {r0 r1 r2 r3 r4 r5 : Nat}
variable {us us1 us2 us3 us4 us5 us6 us7 us8 : Array TypeId} {r6 r7 r8 : Nat} {z1 z2 z3 : TypeId} {p1 p2 p3 : String} {j1 j2 j3 : Array Edge}
theorem lawAgain_of {fn fM fL fA : FuncId} {func : Func} {flx : Int → Bool} {c : Int} {k : Nat} {fs : List Fld} {L6 : List Oper}
    (hfn : (Tryd.prog).funcs[fn]? = some func)
    (hbody : func.body = some (.seq (.region r0 #[⟨some 3, .box 26 (.tmp 1), y0, q0, e0, none⟩, ⟨some 4, .assign (.const (.bool false)), y1, q1, e1, none⟩] false)
     (.seq (.seq (.region r1 #[⟨some 9, .load 26 (.tmp 3), y2, q2, e2, none⟩, ⟨some 10, .call { callee := .value (.func 6), args := #[.tmp 9], argTypes := us }, y3, q3, e3, none⟩, ⟨some 11, .unOp .not 4 (.tmp 10), y4, q4, e4, none⟩] false)
        (.cond (.tmp 11) (.seq (.region r2 #[⟨some 4, .assign (.const (.bool true)), y5, q5, e5, none⟩] false) .ret) .skip))
      (.seq (.region r3 #[⟨some 12, .call { callee := .value (.func fM), args := #[], argTypes := us1 }, y6, q6, e6, none⟩, ⟨some 5, .assign (.tmp 12), y7, q7, e7, none⟩] false)
      (.seq (.seq (.region r4 #[⟨some 13, .move (.tmp 5), y8, q8, e8, none⟩, ⟨some 14, .binOp .lss 3 (.tmp 13) (.const (.int .i64 0)) 3, y9, q9, e9, none⟩] false)
        (.cond (.tmp 14) (.seq (.region r5 #[⟨some 4, .assign (.const (.bool false)), y10, q10, e10, none⟩] false) .ret) .skip))
      (.seq (.region r6 L6.toArray true)
      (.seq (.region r7 #[⟨some 22, .move (.tmp 0), y11, q11, e11, none⟩, ⟨some 23, .move (.tmp 5), y12, q12, e12, none⟩, ⟨some 24, .call { callee := .value (.func 16), args := #[.tmp 22, .tmp 23], argTypes := us5 }, y13, q13, e13, none⟩, ⟨some 25, .move (.tmp 6), y14, q14, e14, none⟩, ⟨some 26, .call { callee := .value (.func fA), args := #[.tmp 24, .tmp 25], argTypes := us6 }, y15, q15, e15, none⟩,
          ⟨some 21, .move (.tmp 26), y16, q16, e16, none⟩, ⟨some 27, .extract (.tmp 21) 0, y17, q17, e17, none⟩, ⟨some 28, .extract (.tmp 21) 1, y18, q18, e18, none⟩, ⟨some 7, .assign (.tmp 27), y19, q19, e19, none⟩, ⟨some 8, .assign (.tmp 28), y20, q20, e20, none⟩] false)
      (.seq (.region r8 #[⟨some 29, .move (.tmp 8), y21, q21, e21, none⟩, ⟨some 30, .move (.tmp 29), y22, q22, e22, none⟩, ⟨some 31, .move (.tmp 7), z1, p1, j1, some (1, true)⟩, ⟨some 32, .move (.tmp 6), z2, p2, j2, some (1, true)⟩,
          ⟨some 33, .call { callee := .value (.func 10), args := #[.tmp 31, .tmp 32], argTypes := us7 }, z3, p3, j3, some (1, true)⟩, ⟨some 34, .pick (.tmp 30) (.tmp 33) (.const (.bool false)), y23, q23, e23, none⟩, ⟨some 4, .assign (.tmp 34), y24, q24, e24, none⟩] false) .ret))))))))
    (hL6 : L6 = [⟨some 15, .call { callee := .value (.func fL), args := #[], argTypes := us2 }, y25, q25, e25, none⟩, ⟨some 16, .move (.tmp 0), y26, q26, e26, none⟩, ⟨some 17, .move (.tmp 5), y27, q27, e27, none⟩, ⟨some 18, .call { callee := .value (.func 16), args := #[.tmp 16, .tmp 17], argTypes := us3 }, y28, q28, e28, none⟩, ⟨some 19, .load 26 (.tmp 3), y29, q29, e29, none⟩,
          ⟨some 20, .call { callee := .value (.func 14), args := #[.tmp 15, .tmp 18, .tmp 19], argTypes := us4 }, y30, q30, e30, none⟩, ⟨some 6, .assign (.tmp 20), y31, q31, e31, none⟩])
    (hS6 : (decide (7 ≤ L6.length) && schedB .any L6.toArray [(true, 1), (true, 2), (true, 4), (false, 0), (false, 3), (false, 5), (true, 6)] (Array.replicate L6.length false)) = true)
    (hres : func.results = #[.tmp 4]) (hNf : func.ntmps = 35) (eM : Enters Tryd.prog fM) (eL : Enters Tryd.prog fL) (eA : Enters Tryd.prog fA)
    (hM : MaxIs fM k) (hL : LaysM fL fs c) (hA : AgC fA flx k fs) (hk : k < 256) (hfx : ∀ ver : Int, 0 ≤ ver → (decide (0 ≤ c) && decide (c ≤ ver)) = flx ver) (hsch : SchOK flx k fs)
    {n : Int} (hn : 0 ≤ n) (hn2 : n < 256) {w : World} {G : Nat → Prop} {v : Tr} {ts : List Value} (hv : TrC w G v ts) (hkv : keyV v) (hb : trBulk v ≤ 1048576) (herr : ErrW w) :
    CallsR Tryd.prog fn #[.int .u8 n, aggOf ts] w fun v w' => v = .bool true ∧ Chg (fun _ => False) w w' := by
  subst hL6
  refine callsR_of hfn hbody hres hNf (by simp) ?_
  intro a hN hD ha
  have g0 : get a 0 = .int .u8 n := ha 0 _ rfl
  have g1 : get a 1 = aggOf ts := ha 1 _ rfl
  obtain ⟨ver, hver⟩ : ∃ ver, ver = n % ((k : Int) + 1) := ⟨_, rfl⟩
  have hv0 : 0 ≤ ver := by rw [hver]; exact Int.emod_nonneg _ (by omega)
  have hv1 : ver ≤ k := by have := Int.emod_lt_of_pos n (show (0 : Int) < (k : Int) + 1 by omega); omega
  have hvc : ∀ w, CallsR Tryd.prog 16 #[.int .u8 n, .int .i64 (k : Int)] w fun v w' => v = .int .i64 ver ∧ w' = w := fun w => by
    rw [hver]; exact version_c n k hn (by omega) (by omega) hn2 w
  clear hver
  have hlen5 := hv.len
  have hone := hv.one
  have hlv := trLen_bulk v
  refine wp_seq_k fun K hK => ?_; refine wp_reg ?_
  refine wl_boxA (l := ts) (by simp [evb, kb, hN, g1, sdb]) fun w1 hc1 hb1 hs1 => ?_
  (repeat ((with_reducible refine wl_p ?_ ?_ ?_); (· simp [evb, pvb, rnb, kb, hN, dyb, sdb] <;> omega); (· kernel_rfl); try simp only [evb, pvb, rnb, kb, hN, Nat.reduceLT, Nat.reduceEqDiff, reduceIte, Int.reduceToNat, Int.reduceBEq, Nat.reduceAdd])); refine wl_nil ?_; refine hK _ _ ?_; clear hK K
  refine wp_seq_k fun K hK => ?_; refine wp_seq_k fun K0 hK0 => ?_; refine wp_reg ?_
  refine wl_loadAgg (b := w.heap.size) (o := 0) (n := 5) (by kernel_rfl) (by kernel_rfl) (by simp [evb, kb, hN, sdb]) hb1 (by omega) ?_
  have e5 : (ts.drop 0).take 5 = ts := by rw [List.drop_zero, ← hlen5, List.take_length]
  rw [e5]
  refine wl_call (fun args w => Tryd.call6 args w) (by simp only [List.map_toArray, List.map_cons, List.map_nil, evb, kb, hN, Nat.reduceLT, Nat.reduceEqDiff, reduceIte, Int.reduceToNat, Int.reduceBEq]; exact fits2_c v (by omega) (hv.stay (Stay.none hc1))) ?_
  rintro _ w2 ⟨⟨bb, rfl⟩, hc2⟩
  have hcw2 : Chg (fun _ => False) w w2 := hc1.trans hc2 fun _ _ h => h
  (repeat ((with_reducible refine wl_p ?_ ?_ ?_); (· simp [evb, pvb, rnb, kb, hN, dyb, sdb] <;> omega); (· kernel_rfl); try simp only [evb, pvb, rnb, kb, hN, Nat.reduceLT, Nat.reduceEqDiff, reduceIte, Int.reduceToNat, Int.reduceBEq, Nat.reduceAdd]))
  refine wl_nil ?_
  refine hK0 _ _ ?_; try clear hK0 K0
  cases bb
  · refine wp_cond_true (by simp [evb, kb, hN, sdb]) ?_
    refine wp_seq_k fun K hK => ?_; refine wp_reg ?_; (repeat ((with_reducible refine wl_p ?_ ?_ ?_); (· simp [evb, pvb, rnb, kb, hN, dyb, sdb] <;> omega); (· kernel_rfl); try simp only [evb, pvb, rnb, kb, hN, Nat.reduceLT, Nat.reduceEqDiff, reduceIte, Int.reduceToNat, Int.reduceBEq, Nat.reduceAdd])); refine wl_nil ?_; refine hK _ _ ?_; clear hK K; refine wp_ret ⟨by simp [defers_put, hD], ?_⟩; simp only [evb, kb, hN, Nat.reduceLT, Nat.reduceEqDiff, reduceIte, Int.reduceToNat, Int.reduceBEq]
    exact ⟨by simp [evb, kb, hN, Nat.reduceLT, Nat.reduceEqDiff, reduceIte, Int.reduceToNat, Int.reduceBEq], hcw2⟩
  refine wp_cond_false (by simp [evb, kb, hN, sdb]) ?_
  refine wp_skip ?_
  refine hK _ _ ?_
  clear hK K
  have hb2 := hb1.chg hc2 (fun h => h)
  refine wp_seq_k fun K hK => ?_; refine wp_reg ?_
  refine wl_call eM (by simp only [List.map_toArray, List.map_nil]; exact hM w2) ?_
  rintro _ w3 ⟨rfl, hc3⟩
  have hcw3 : Chg (fun _ => False) w w3 := hcw2.trans hc3 fun _ _ h => h
  have hb3 := hb2.chg hc3 (fun h => h)
  (repeat ((with_reducible refine wl_p ?_ ?_ ?_); (· simp [evb, pvb, rnb, kb, hN, dyb, sdb] <;> omega); (· kernel_rfl); try simp only [evb, pvb, rnb, kb, hN, Nat.reduceLT, Nat.reduceEqDiff, reduceIte, Int.reduceToNat, Int.reduceBEq, Nat.reduceAdd])); refine wl_nil ?_; refine hK _ _ ?_; clear hK K
  refine wp_seq_k fun K hK => ?_; refine wp_seq_k fun K0 hK0 => ?_; refine wp_reg ?_
  (repeat ((with_reducible refine wl_p ?_ ?_ ?_); (· simp [evb, pvb, rnb, kb, hN, dyb, sdb] <;> omega); (· kernel_rfl); try simp only [evb, pvb, rnb, kb, hN, Nat.reduceLT, Nat.reduceEqDiff, reduceIte, Int.reduceToNat, Int.reduceBEq, Nat.reduceAdd]))
  refine wl_nil ?_
  refine hK0 _ _ ?_; try clear hK0 K0
  refine wp_cond_false (by simp [evb, kb, hN, sdb]) ?_
  refine wp_skip ?_
  refine hK _ _ ?_
  clear hK K
  have hbound : (sPart (flx ver) ver fs v).length ≤ 1073741824 := by
    have h1 := sPart_le (flex := flx ver) (ver := ver) (v := v) hsch.plain
    have h2 : (kL fs + 6) * trBulk v ≤ 1024 * 1048576 := Nat.mul_le_mul hsch.room hb
    omega
  obtain ⟨s, hdec, henc⟩ := tree_law (hsch.good ver hv0 hv1) hsch.plain hkv (by omega : (sPart (flx ver) ver fs v).length ≤ 2147483648)
  refine wp_seq_k fun K hK => ?_
  refine wp_sched (fun w' => Chg (fun _ => False) w3 w') [(true, 1), (true, 2), (true, 4), (false, 0), (false, 3), (false, 5), (true, 6)] follows_any (by kernel_rfl) hS6 (Chg.drew _ _) ?_
  refine ws_move rfl ?_
  refine ws_move rfl ?_
  simp only [evb, kb, hN, Nat.reduceLT, Nat.reduceEqDiff, reduceIte, Int.reduceToNat, Int.reduceBEq, g0]
  refine ws_loadAgg (b := w.heap.size) (o := 0) (n := 5) (by kernel_rfl) (by kernel_rfl) rfl (by simp [evb, kb, hN, sdb]) (fun w' c => hb3.chg c (fun h => h)) (by omega) ?_
  rw [e5]
  refine ws_call eL rfl (by simp only [List.map_toArray, List.map_cons, List.map_nil, evb, kb, hN, Nat.reduceLT, Nat.reduceEqDiff, reduceIte, Int.reduceToNat, Int.reduceBEq]; exact hL _) ?_
  rintro _ w4 ⟨sv, rfl, hsv, hc4⟩
  have hk4 : Chg (fun _ => False) w3 w4 := (Chg.drew _ _).trans hc4 fun _ _ h => h
  refine ⟨hk4, ?_⟩
  refine ws_call (fun args w => Tryd.call16 args w) rfl (by simp only [List.map_toArray, List.map_cons, List.map_nil, evb, kb, hN, Nat.reduceLT, Nat.reduceEqDiff, reduceIte, Int.reduceToNat, Int.reduceBEq]; exact hvc _) ?_
  rintro _ w4' ⟨rfl, e⟩
  replace e := e.symm
  subst e
  refine ⟨hk4, ?_⟩
  have hcw4 : Chg (fun _ => False) w w4 := hcw3.trans hk4 fun _ _ h => h
  refine ws_call (fun args w => Tryd.call14 args w) rfl (by simp only [List.map_toArray, List.map_cons, List.map_nil, evb, kb, hN, Nat.reduceLT, Nat.reduceEqDiff, reduceIte, Int.reduceToNat, Int.reduceBEq]; exact Write_c fs c ver v hsch.ok hsch.len (trok_bulk (by unfold LIM; omega)) (by rw [hfx ver hv0]; unfold SLIM; omega) hsv (hv.stay (Stay.none hcw4))) ?_
  rw [hfx ver hv0]
  rintro v5 w5 ho5
  have hk5 := hk4.trans ho5.2 fun _ _ h => h
  refine ⟨hk5, ?_⟩
  refine ws_assign rfl ?_
  simp only [evb, kb, hN, Nat.reduceLT, Nat.reduceEqDiff, reduceIte, Int.reduceToNat, Int.reduceBEq]
  refine ws_nil ?_
  refine hK _ _ ?_
  clear hK K
  have hcw5 : Chg (fun _ => False) w w5 := hcw3.trans hk5 fun _ _ h => h
  have hE5 := herr.chg hcw5 (fun h => h)
  obtain ⟨oa5, cap5, rfl, _, hb5⟩ := ho5.1.bytes
  refine wp_seq_k fun K hK => ?_; refine wp_reg ?_; (repeat ((with_reducible refine wl_p ?_ ?_ ?_); (· simp [evb, pvb, rnb, kb, hN, g0, dyb, sdb] <;> omega); (· kernel_rfl); try simp only [evb, pvb, rnb, kb, hN, Nat.reduceLT, Nat.reduceEqDiff, reduceIte, Int.reduceToNat, Int.reduceBEq, Nat.reduceAdd, g0]))
  refine wl_call (fun args w => Tryd.call16 args w) (by simp only [List.map_toArray, List.map_cons, List.map_nil, evb, kb, hN, Nat.reduceLT, Nat.reduceEqDiff, reduceIte, Int.reduceToNat, Int.reduceBEq]; exact hvc _) ?_
  rintro _ w5' ⟨rfl, e⟩
  replace e := e.symm
  subst e
  (repeat ((with_reducible refine wl_p ?_ ?_ ?_); (· simp [evb, pvb, rnb, kb, hN, dyb, sdb] <;> omega); (· kernel_rfl); try simp only [evb, pvb, rnb, kb, hN, Nat.reduceLT, Nat.reduceEqDiff, reduceIte, Int.reduceToNat, Int.reduceBEq, Nat.reduceAdd]))
  refine wl_call eA (by simp only [List.map_toArray, List.map_cons, List.map_nil, evb, kb, hN, Nat.reduceLT, Nat.reduceEqDiff, reduceIte, Int.reduceToNat, Int.reduceBEq]; exact hA ver hv0 hv1 _ _ oa5 _ cap5 hb5 (by unfold RLIM; omega) hE5 (fun s' r' h => by
    rw [hdec] at h
    simp only [Option.some.injEq, Prod.mk.injEq] at h
    obtain ⟨rfl, _⟩ := h
    rw [henc]; unfold LIM; omega)) ?_
  rintro v6 w6 ⟨hc6, hq⟩
  rcases hq with ⟨h, _⟩ | ⟨s', r', out, h, rfl, hown⟩
  · rw [hdec] at h; cases h
  rw [hdec] at h
  simp only [Option.some.injEq, Prod.mk.injEq] at h
  obtain ⟨rfl, rfl⟩ := h
  rw [henc] at hown
  obtain ⟨oa6, cap6, rfl, _, hb6⟩ := hown.bytes
  (repeat ((with_reducible refine wl_p ?_ ?_ ?_); (· simp [evb, pvb, rnb, kb, hN, exV, exOK, dyb, sdb] <;> omega); (· kernel_rfl); try simp only [evb, pvb, rnb, kb, hN, Nat.reduceLT, Nat.reduceEqDiff, reduceIte, Int.reduceToNat, Int.reduceBEq, Nat.reduceAdd, exV, exOK])); refine wl_nil ?_; refine hK _ _ ?_; clear hK K
  refine wp_seq_k fun K hK => ?_; refine wp_reg ?_; (repeat (first | ((with_reducible refine wl_p ?_ ?_ ?_); (· simp [evb, pvb, rnb, kb, hN, Nat.reduceLT, Nat.reduceEqDiff, reduceIte, Int.reduceToNat, Int.reduceBEq, Nat.reduceAdd, dyb, sdb] <;> omega); (· kernel_rfl); try simp only [evb, pvb, rnb, kb, hN, Nat.reduceLT, Nat.reduceEqDiff, reduceIte, Int.reduceToNat, Int.reduceBEq, Nat.reduceAdd]) | ((with_reducible apply wl_gyesB); (· exact rfl); (· exact rfl); (· simp [evb, pvb, rnb, kb, hN, Nat.reduceLT, Nat.reduceEqDiff, reduceIte, Int.reduceToNat, Int.reduceBEq, Nat.reduceAdd]; done); try simp only [evb, pvb, rnb, kb, hN, Nat.reduceLT, Nat.reduceEqDiff, reduceIte, Int.reduceToNat, Int.reduceBEq, Nat.reduceAdd]) | ((with_reducible apply wl_gnoB); (· exact rfl); (· exact rfl); (· simp [evb, pvb, rnb, kb, hN, Nat.reduceLT, Nat.reduceEqDiff, reduceIte, Int.reduceToNat, Int.reduceBEq, Nat.reduceAdd]; done); try simp only [evb, pvb, rnb, kb, hN, Nat.reduceLT, Nat.reduceEqDiff, reduceIte, Int.reduceToNat, Int.reduceBEq, Nat.reduceAdd]) | ((with_reducible apply wl_gnoU); (· exact rfl); (· exact rfl); (· simp [evb, pvb, rnb, kb, hN, Nat.reduceLT, Nat.reduceEqDiff, reduceIte, Int.reduceToNat, Int.reduceBEq, Nat.reduceAdd]; done); try simp only [evb, pvb, rnb, kb, hN, Nat.reduceLT, Nat.reduceEqDiff, reduceIte, Int.reduceToNat, Int.reduceBEq, Nat.reduceAdd])))
  refine wl_call (fun args w => Tryd.call10 args w) (by simp only [List.map_toArray, List.map_cons, List.map_nil, evb, kb, hN, Nat.reduceLT, Nat.reduceEqDiff, reduceIte, Int.reduceToNat, Int.reduceBEq]; exact Same_c _ _ hb6 (hb5.chg hc6 fun _ _ _ h => h) (by unfold LIM; omega)) ?_
  rintro _ w7 ⟨rfl, hc7⟩
  (repeat ((with_reducible refine wl_p ?_ ?_ ?_); (· simp [evb, pvb, rnb, kb, hN, pickV, dyb, sdb] <;> omega); (· kernel_rfl); try simp only [evb, pvb, rnb, kb, hN, Nat.reduceLT, Nat.reduceEqDiff, reduceIte, Int.reduceToNat, Int.reduceBEq, Nat.reduceAdd, pickV])); refine wl_nil ?_; refine hK _ _ ?_; clear hK K; refine wp_ret ⟨by simp [defers_put, hD], ?_⟩; simp only [evb, kb, hN, Nat.reduceLT, Nat.reduceEqDiff, reduceIte, Int.reduceToNat, Int.reduceBEq]
  exact ⟨by simp, (hcw5.trans hc6 fun _ _ h => h).trans hc7 fun _ _ h => h⟩
end
end Go.Proofs.YtgjnllebnkjofaaDoor
namespace Go.Proofs.YtgjnllebnkjofaaDoor
set_option linter.all false
open Go.RowKit
set_option maxRecDepth 100000
set_option maxHeartbeats 2000000
def sch_sOffsetDeleteResponseTopicPartition : List Fld := [.mk .i32 0 (-1) (-1) (-1) 0 .bool [], .mk .i16 0 (-1) (-1) (-1) 0 .bool []]
def sch_sOffsetDeleteResponseTopic : List Fld := [.mk .text 0 (-1) (-1) (-1) 0 .bool [], .mk .list 0 (-1) (-1) (-1) 0 .struct sch_sOffsetDeleteResponseTopicPartition]
def sch_OffsetDeleteResponse : List Fld := [.mk .i16 0 (-1) (-1) (-1) 0 .bool [], .mk .i32 0 (-1) (-1) (-1) 0 .bool [], .mk .list 0 (-1) (-1) (-1) 0 .struct sch_sOffsetDeleteResponseTopic]
def zz_sOffsetDeleteResponseTopicPartition : List Value := [.int .i32 0, .int .i16 0]
def dd_sOffsetDeleteResponseTopicPartition : List Value := [.int .i32 0, .int .i16 0]
theorem elz_sOffsetDeleteResponseTopicPartition : ∀ e, (Tryd.prog).underlying 86 = some (.slice e) → zeroB Tryd.prog e (aggOf zz_sOffsetDeleteResponseTopicPartition) := by
  intro e he
  have h : (Tryd.prog).underlying 86 = some (.slice 91) := by kernel_rfl
  rw [h] at he; cases he
  exact fun w => Tryd.zeroValue91 w
theorem eln_sOffsetDeleteResponseTopicPartition : Enters Tryd.prog 67 := (fun args w => Tryd.call67 args w)
theorem eld_sOffsetDeleteResponseTopicPartition : DefC 67 (aggOf zz_sOffsetDeleteResponseTopicPartition).cells.toList dd_sOffsetDeleteResponseTopicPartition := by
  intro w b off cs T hb hlen hseg
  refine callsR_of0 Tryd.func67 rfl rfl Tryd.ntmps67 (by simp) ?_
  intro a hN hD ha
  refine wp_skip ⟨hD, ?_, Chg.refl _ _⟩
  have e : splice cs off dd_sOffsetDeleteResponseTopicPartition = cs := splice_same hseg hlen
  rw [e]; exact hb
def zz_sOffsetDeleteResponseTopic : List Value := [.string ⟨#[]⟩, .slice none 0 0]
def dd_sOffsetDeleteResponseTopic : List Value := [.string ⟨#[]⟩, .slice none 0 0]
theorem elz_sOffsetDeleteResponseTopic : ∀ e, (Tryd.prog).underlying 72 = some (.slice e) → zeroB Tryd.prog e (aggOf zz_sOffsetDeleteResponseTopic) := by
  intro e he
  have h : (Tryd.prog).underlying 72 = some (.slice 88) := by kernel_rfl
  rw [h] at he; cases he
  exact fun w => Tryd.zeroValue88 w
theorem eln_sOffsetDeleteResponseTopic : Enters Tryd.prog 66 := (fun args w => Tryd.call66 args w)
theorem eld_sOffsetDeleteResponseTopic : DefC 66 (aggOf zz_sOffsetDeleteResponseTopic).cells.toList dd_sOffsetDeleteResponseTopic := by
  intro w b off cs T hb hlen hseg
  refine callsR_of0 Tryd.func66 rfl rfl Tryd.ntmps66 (by simp) ?_
  intro a hN hD ha
  refine wp_skip ⟨hD, ?_, Chg.refl _ _⟩
  have e : splice cs off dd_sOffsetDeleteResponseTopic = cs := splice_same hseg hlen
  rw [e]; exact hb
def dd_OffsetDeleteResponse : List Value := [.int .i16 0, .int .i32 0, .slice none 0 0]
theorem defm_OffsetDeleteResponse : DefM 40 dd_OffsetDeleteResponse := by
  intro w B v T hb
  refine callsR_of0 Tryd.func40 rfl rfl Tryd.ntmps40 (by simp) ?_
  intro a hN hD ha
  exact wp_skip ⟨hD, hb, Chg.refl _ _⟩
theorem read_OffsetDeleteResponse : ReadsF 50 false (fun _ => false) sch_OffsetDeleteResponse dd_OffsetDeleteResponse [.bool false] := by
  refine read_plain Tryd.func50 rfl rfl Tryd.ntmps50 (fun args w => Tryd.call40 args w) defm_OffsetDeleteResponse (by kernel_rfl) ?_
  intro ver hver
  (repeat' (first | (with_reducible refine rt_tagged rfl rfl ?_) | (with_reducible refine rt_next rfl (by kernel_rfl) ?_ ?_) | (with_reducible refine rt_end rfl ?_) | (with_reducible refine rt_noflex rfl ?_) | (with_reducible refine rt_fin co_en (by kernel_rfl) (by kernel_rfl)) | (with_reducible refine rd_tagged rfl rfl ?_) | (with_reducible refine rd_noflex rfl ?_) | (with_reducible refine rd_last rfl rfl (by kernel_rfl) ?_) | (with_reducible refine rd_next rfl (by kernel_rfl) (by kernel_rfl) ?_ ?_) | (with_reducible refine rd_end rfl ?_) | (with_reducible refine sf_all rfl (by dsimp only; omega) ?_) | ((with_reducible refine sf_from rfl (by kernel_rfl) (fun hv => ?_)); try dsimp only at hv) | ((with_reducible refine sf_range rfl (by kernel_rfl) (fun hv hv2 => ?_)); try dsimp only at hv hv2) | (with_reducible refine rf_list1 rfl (by kernel_rfl) elz_sOffsetDeleteResponseTopicPartition (by kernel_rfl) ?_ ok_en co_en ?_ (by kernel_rfl)) | (with_reducible refine el_struct1 (by kernel_rfl) eln_sOffsetDeleteResponseTopicPartition eld_sOffsetDeleteResponseTopicPartition (by kernel_rfl) ?_ (by kernel_rfl) (by kernel_rfl) (by kernel_rfl)) | (with_reducible refine rf_list1 rfl (by kernel_rfl) elz_sOffsetDeleteResponseTopic (by kernel_rfl) ?_ ok_en co_en ?_ (by kernel_rfl)) | (with_reducible refine el_struct1 (by kernel_rfl) eln_sOffsetDeleteResponseTopic eld_sOffsetDeleteResponseTopic (by kernel_rfl) ?_ (by kernel_rfl) (by kernel_rfl) (by kernel_rfl)) | (with_reducible refine rf_store ?_ rfl (by kernel_rfl) (by kernel_rfl) (by kernel_rfl)) | (with_reducible refine rf_store2 ?_ rfl (by kernel_rfl) (by kernel_rfl) (by kernel_rfl) (by kernel_rfl)) | (with_reducible refine rd_pre ?_ (by kernel_rfl)) | (with_reducible refine rv_safe ?_ (by kernel_rfl)) | (with_reducible refine rv_flex rfl (fun hx => ?_) (fun hx => ?_) (by kernel_rfl)) | (with_reducible refine rv_i16 (by kernel_rfl)) | (with_reducible refine rv_i32 (by kernel_rfl)) | (with_reducible refine rv_string rfl (by first | assumption | rfl) (by kernel_rfl)) | (with_reducible refine rv_again ?_ (by kernel_rfl)) | (with_reducible refine rv_pre ?_ (by kernel_rfl)) | (with_reducible refine rn_plain (by first | assumption | rfl) (by kernel_rfl)) | (with_reducible refine rn_flex rfl (fun hx => ?_) (fun hx => ?_) (by kernel_rfl)) | (with_reducible refine el_pre ?_ (by kernel_rfl)) | (with_reducible refine el_val (by kernel_rfl) (rv_elem rfl ?_) (by kernel_rfl) (by kernel_rfl))))
theorem app_OffsetDeleteResponse : AppendsTo 32 false (fun _ => false) sch_OffsetDeleteResponse := by
  refine app_plain Tryd.func32 rfl rfl Tryd.ntmps32 (by kernel_rfl) ?_
  intro ver s hver
  (repeat' (first | with_reducible refine wt_start ?_ | with_reducible refine wp_noflex rfl ?_ | with_reducible refine wr_start ?_ | with_reducible refine wt_tagged rfl rfl ?_ | (with_reducible refine wt_next rfl (by kernel_rfl) (fun d hd => ?_) ?_) | (with_reducible refine wt_fin rfl rfl ?_) | (with_reducible refine wt_end rfl (by kernel_rfl) ?_ ?_) | (with_reducible refine wt_ret (by kernel_rfl)) | with_reducible refine wr_tagged rfl rfl ?_ | (with_reducible refine wr_last rfl rfl (fun d hd => ?_)) | (with_reducible refine wr_next rfl (by kernel_rfl) (fun d hd => ?_) ?_) | (with_reducible refine wr_end rfl ?_) | (with_reducible refine wf_all rfl (by dsimp only; omega) ?_) | ((with_reducible refine wf_from rfl (by kernel_rfl) (fun hv => ?_)); try dsimp only at hv) | ((with_reducible refine wf_range rfl (by kernel_rfl) (fun hv hv2 => ?_)); try dsimp only at hv hv2) | (with_reducible refine wf_load rfl hd (by kernel_rfl) (by kernel_rfl) rfl ?_) | (with_reducible refine wf_inner rfl hd (by kernel_rfl) (by kernel_rfl) rfl (fun s => ?_)) | (with_reducible refine wv_i16 (by kernel_rfl)) | (with_reducible refine wv_i32 (by kernel_rfl)) | (with_reducible refine wv_u16 (by kernel_rfl)) | (with_reducible refine wv_flexS rfl (by kernel_rfl) (fun hx => ?_) (fun hx => ?_)) | (with_reducible refine wv_string rfl (by first | assumption | rfl) (by kernel_rfl)) | ((with_reducible refine wv_otext rfl (by kernel_rfl) (by kernel_rfl) (by kernel_rfl) (by kernel_rfl) rfl (fun l => ?_) (fun hv => ?_)); (try dsimp only at hv)) | (with_reducible refine wv_listS (fun oa n cap M => ?_) (by kernel_rfl) (by kernel_rfl) (by kernel_rfl) (by kernel_rfl) (fun s => ?_)) | (with_reducible refine wv_listK (fun oa n cap M => ?_) (by kernel_rfl) (by kernel_rfl) (by kernel_rfl) (by kernel_rfl) (fun d => ?_)) | (with_reducible refine wn_flex rfl (by kernel_rfl) (fun hx => ?_) (fun hx => ?_)) | ((with_reducible refine wn_ver (by kernel_rfl) (fun hv => ?_) (fun hv => ?_)) <;> try dsimp only at hv) | (with_reducible refine wn_plain (by dsimp only; omega) (by first | assumption | rfl) (by kernel_rfl) (by kernel_rfl)) | (with_reducible refine wv_again (by kernel_rfl) rfl ?_)))
end Go.Proofs.YtgjnllebnkjofaaDoor
