import Derived.Test.YtgjnllebnkjofaaDoorZB
import Derived.Test.YtgjnllebnkjofaaDoorZA
import Derived.Laws.AppendOwn
/-
What the proofs of the laws rest on, part ZC.
-/
namespace Go.Proofs.YtgjnllebnkjofaaDoor
set_option linter.all false
open Go.RowKit
set_option maxRecDepth 10000
structure REnv where
  N : Nat
  ver : Int
  flex : Bool
  fl : Bool
def RS (m t : Nat) : Prop := t < m ∧ t ≠ 6
instance (m t : Nat) : Decidable (RS m t) := inferInstanceAs (Decidable (_ ∧ _))
def ROK (E : REnv) (a : Act) : Prop := a.tmps.size = E.N ∧ a.defers = [] ∧ get a 2 = .bool false ∧ get a 8 = .int .i16 E.ver ∧ (E.fl = true → get a 9 = .bool E.flex)
def RLIM : Nat := 1073741824
def stLen (st : Option Bs) : Nat := (st.getD []).length
def Low (E : REnv) (m : Nat) : Prop := 8 < m ∧ (E.fl = true → 9 < m)
theorem ROK.keep {E : REnv} {m : Nat} {a a' : Act} (h : ROK E a) (hm : Low E m) (k : za3 (RS m) a a') : ROK E a' := by
  obtain ⟨h1, h2⟩ := hm
  refine ⟨k.size.trans h.1, k.defers.trans h.2.1, (k.slot 2 ⟨by omega, by decide⟩).trans h.2.2.1, (k.slot 8 ⟨by omega, by decide⟩).trans h.2.2.2.1, fun e => (k.slot 9 ⟨h2 e, by decide⟩).trans (h.2.2.2.2 e)⟩
structure RB (E : REnv) (a : Act) (w : World) (O : Nat → Prop) (R : Nat) (st : Option Bs) : Prop where
  ok : ROK E a
  rd : get a 7 = .pointer (some ⟨R, 0, none⟩)
  rs : RdS w (fun g => ¬ O g) R st
  oR : O R
  oE : ¬ O gE
  err : ErrW w
  new : ∀ k, w.heap.size ≤ k → ¬ O k
  lim : stLen st ≤ RLIM
theorem ErrW.chg {X : Nat → Prop} {w w' : World} (h : ErrW w) (c : Chg X w w') (hx : ¬ X gE) : ErrW w' := by
  obtain ⟨t, x, h1, h2⟩ := h
  have hlt : gE < w.heap.size := by
    have : (w.heap[gE]?).isSome = true := by
      cases hh : w.heap[gE]? with
      | none => simp [ldOK, World.cell?, hh] at h2
      | some _ => rfl
    obtain ⟨o, ho⟩ := Option.isSome_iff_exists.1 this
    exact (Array.getElem?_eq_some_iff.1 ho).1
  have e : w'.cell? ⟨gE, 0, none⟩ = w.cell? ⟨gE, 0, none⟩ := by
    unfold World.cell?
    rw [c.block gE hlt hx]
  exact ⟨t, x, by rw [← h1]; show (w'.cell? ⟨gE, 0, none⟩).getD undef = _; rw [e]; rfl, by rw [← h2]; show (w'.cell? ⟨gE, 0, none⟩).isSome = _; rw [e]; rfl⟩
theorem RB.next {E : REnv} {m : Nat} {a a' : Act} {w w' : World} {O X : Nat → Prop} {R : Nat} {st st' : Option Bs} (h : RB E a w O R st) (hm : Low E m) (hk : za3 (RS m) a a') (hc : Chg X w w') (hX : ∀ k, X k → O k)
    (hr : RdS w' (fun g => ¬ O g) R st') (hl : stLen st' ≤ stLen st) : RB E a' w' O R st' :=
  ⟨h.ok.keep hm hk, (hk.slot 7 ⟨by have := hm.1; omega, by decide⟩).trans h.rd, hr, h.oR, h.oE, h.err.chg hc fun hx => h.oE (hX _ hx), fun k hk' => h.new k (Nat.le_trans hc.size hk'), Nat.le_trans hl h.lim⟩
structure RP (E : REnv) (sS k0 : Nat) (fs : List Fld) (a : Act) (w : World) (O : Nat → Prop) (R B p : Nat) (s : S) : Prop where
  pt : get a sS = .pointer (some ⟨B, p, none⟩)
  at_ : At w (fun g => ¬ O g) E.fl fs s B (p + k0)
  oB : O B
  ne : R ≠ B
def Rest (w w' : World) (B lo n : Nat) : Prop := ∀ cs T, Blk w B cs T → ∃ cs', Blk w' B cs' T ∧ cs'.length = cs.length ∧ ∀ j, (j < lo ∨ lo + n ≤ j) → cs'[j]? = cs[j]?
theorem Rest.trans {w w1 w2 : World} {B lo n : Nat} (h : Rest w w1 B lo n) (k : Rest w1 w2 B lo n) : Rest w w2 B lo n := by
  intro cs T hb
  obtain ⟨cs1, h1, h2, h3⟩ := h cs T hb
  obtain ⟨cs2, k1, k2, k3⟩ := k cs1 T h1
  exact ⟨cs2, k1, k2.trans h2, fun j hj => (k3 j hj).trans (h3 j hj)⟩
theorem Rest.of {w w' : World} {B lo n : Nat} (h : w'.heap[B]? = w.heap[B]?) : Rest w w' B lo n := fun cs _ hb => ⟨cs, h.trans hb, rfl, fun _ _ => rfl⟩
theorem Rest.mono {w w' : World} {B lo n lo' n' : Nat} (h : Rest w w' B lo n) (h1 : lo' ≤ lo) (h2 : lo + n ≤ lo' + n') : Rest w w' B lo' n' := by
  intro cs T hb
  obtain ⟨cs1, k1, k2, k3⟩ := h cs T hb
  exact ⟨cs1, k1, k2, fun j hj => k3 j (by omega)⟩
def Stp (sem : Sem) (st : Option Bs) (s : S) (st' : Option Bs) (s' : S) : Prop := match st.bind (sem s) with
  | some y => st' = some y.2 ∧ s' = y.1
  | none => st' = none
def RFail (O : Nat → Prop) (w : World) (f : Prop) (a' : Act) (w' : World) : Prop := a'.defers = [] ∧ (∃ t x, get a' 6 = .iface t x) ∧ f ∧ Chg O w w'
def RdQ (E : REnv) (m k0 : Nat) (fs : List Fld) (I : Nat) (sem : Sem) (a : Act) (w : World) (O : Nat → Prop) (R B p : Nat) (st : Option Bs) (s : S) : Exit → Act → World → Prop
  | .normal, a', w' => za3 (RS m) a a' ∧ Chg (fun k => k = R ∨ k = B) w w' ∧ Rest w w' B (p + k0) (ssz E.fl fs) ∧ ∃ st' s', RdS w' (fun g => ¬ O g) R st' ∧ At w' (fun g => ¬ O g) E.fl fs s' B (p + k0) ∧ Stp sem st s st' s' ∧ stLen st' ≤ stLen st ∧
      ∀ j, I ≤ j → s'.ds[j]? = s.ds[j]?
  | .ret, a', w' => RFail O w (st.bind (sem s) = none) a' w'
  | _, _, _ => False
def RdC (E : REnv) (m sS k0 : Nat) (fs : List Fld) (I : Nat) (pre : S → Prop) (sem : Sem) (c : Code) : Prop :=
  ∀ (a : Act) (w : World) (O : Nat → Prop) (R B p : Nat) (st : Option Bs) (s : S), RB E a w O R st → RP E sS k0 fs a w O R B p s → pre s → c.wp Tryd.prog (RdQ E m k0 fs I sem a w O R B p st s) a w
theorem At.len {w : World} {G : Nat → Prop} {fl : Bool} {fs : List Fld} {s : S} {B o : Nat} (h : At w G fl fs s B o) : s.ds.length = fs.length := by
  obtain ⟨cs, T, _, _, h3⟩ := h
  exact h3.len.2
section
variable {E : REnv} {m sS k0 I : Nat} {fs : List Fld} {pre : S → Prop} {sem : Sem} {c c1 c2 : Code}
theorem rd_seq {pre1 pre2 : S → Prop} {sem1 sem2 : Sem} {I1 I2 : Nat} (hm : Low E m ∧ sS < m ∧ sS ≠ 6) (h1 : RdC E m sS k0 fs I1 pre1 sem1 c1) (h2 : RdC E m sS k0 fs I2 pre2 sem2 c2) (hI1 : I1 ≤ I) (hI2 : I2 ≤ I)
    (hp1 : ∀ s, pre s → pre1 s) (hp2 : ∀ s s' : S, pre s → s.ds.length = fs.length → (∀ j, I1 ≤ j → s'.ds[j]? = s.ds[j]?) → pre2 s') (he : ∀ s bs, pre s → s.ds.length = fs.length → sem s bs = (sem1 s bs).bind fun x => sem2 x.1 x.2) :
    RdC E m sS k0 fs I pre sem (.seq c1 c2) := by
  intro a w O R B p st s hB hP hpre
  have hlen := hP.at_.len
  refine wp_seq (wp_mono (h1 a w O R B p st s hB hP (hp1 s hpre)) ?_)
  intro e a1 w1 hq
  cases e <;> try exact hq.elim
  · obtain ⟨hk, hc, hr, st1, s1, hs1, ha1, hstp, hl, hI⟩ := hq
    have hB1 := hB.next hm.1 hk hc (fun k hk => by rcases hk with rfl | rfl; exact hB.oR; exact hP.oB) hs1 hl
    have hP1 : RP E sS k0 fs a1 w1 O R B p s1 := ⟨(hk.slot _ ⟨hm.2.1, hm.2.2⟩).trans hP.pt, ha1, hP.oB, hP.ne⟩
    refine wp_mono (h2 a1 w1 O R B p st1 s1 hB1 hP1 (hp2 s s1 hpre hlen hI)) ?_
    intro e a2 w2 hq
    have hsem : st.bind (sem s) = (st.bind (sem1 s)).bind fun x => sem2 x.1 x.2 := by
      cases st with
      | none => rfl
      | some bs => exact he s bs hpre hlen
    cases e <;> try exact hq.elim
    · obtain ⟨hk2, hc2, hr2, st2, s2, hs2, ha2, hstp2, hl2, hI2'⟩ := hq
      refine ⟨hk.trans hk2, hc.trans hc2 fun _ _ h => h, hr.trans hr2, st2, s2, hs2, ha2, ?_, Nat.le_trans hl2 hl, fun j hj => (hI2' j (by omega)).trans (hI j (by omega))⟩
      unfold Stp at hstp hstp2 ⊢
      rw [hsem]
      cases h : st.bind (sem1 s) with
      | none =>
        rw [h] at hstp
        subst hstp
        exact hstp2
      | some y =>
        rw [h] at hstp
        obtain ⟨rfl, rfl⟩ := hstp
        exact hstp2
    · obtain ⟨q1, q2, q3, q4⟩ := hq
      refine ⟨q1, q2, ?_, (hc.mono fun k _ hk => by rcases hk with rfl | rfl; exact hB.oR; exact hP.oB : Chg O w w1).trans q4 fun _ _ h => h⟩
      rw [hsem]
      unfold Stp at hstp
      cases h : st.bind (sem1 s) with
      | none => rfl
      | some y =>
        rw [h] at hstp
        obtain ⟨rfl, rfl⟩ := hstp
        exact q3
  · obtain ⟨q1, q2, q3, q4⟩ := hq
    refine ⟨q1, q2, ?_, q4⟩
    cases st with
    | none => rfl
    | some bs =>
      rw [Option.bind_some] at q3 ⊢
      rw [he s bs hpre hlen, q3]; rfl
theorem rd_skip : RdC E m sS k0 fs I pre (fun s bs => some (s, bs)) .skip := by
  intro a w O R B p st s hB hP hpre
  refine wp_skip ⟨za3.refl _ _, Chg.refl _ _, Rest.of rfl, st, s, hB.rs, hP.at_, ?_, Nat.le_refl _, fun _ _ => rfl⟩
  unfold Stp
  cases st with
  | none => rfl
  | some bs => exact ⟨rfl, rfl⟩
theorem rd_mono {m' I' : Nat} {pre' : S → Prop} {sem' : Sem} (h : RdC E m' sS k0 fs I' pre' sem' c) (hm : m ≤ m') (hI : I' ≤ I) (hp : ∀ s, pre s → pre' s) (he : ∀ s bs, pre s → s.ds.length = fs.length → sem s bs = sem' s bs) : RdC E m sS k0 fs I pre sem c := by
  intro a w O R B p st s hB hP hpre
  have hlen := hP.at_.len
  refine wp_mono (h a w O R B p st s hB hP (hp s hpre)) ?_
  intro e a1 w1 hq
  have hsem : st.bind (sem s) = st.bind (sem' s) := by
    cases st with
    | none => rfl
    | some bs => exact he s bs hpre hlen
  cases e <;> try exact hq.elim
  · obtain ⟨hk, hc, hr, st1, s1, hs1, ha1, hstp, hl, hI'⟩ := hq
    exact ⟨hk.mono fun t ht => ⟨by have := ht.1; omega, ht.2⟩, hc, hr, st1, s1, hs1, ha1, by unfold Stp at hstp ⊢; rw [hsem]; exact hstp, hl, fun j hj => hI' j (by omega)⟩
  · obtain ⟨q1, q2, q3, q4⟩ := hq
    exact ⟨q1, q2, by rw [hsem]; exact q3, q4⟩
theorem rd_go {a a1 : Act} {w : World} {O : Nat → Prop} {R B p : Nat} {st : Option Bs} {s : S} (hm : Low E m ∧ sS < m ∧ sS ≠ 6) (h : RdC E m sS k0 fs I pre sem c) (hB : RB E a w O R st) (hP : RP E sS k0 fs a w O R B p s) (hpre : pre s) (hk : za3 (RS m) a a1) :
    c.wp Tryd.prog (RdQ E m k0 fs I sem a w O R B p st s) a1 w := by
  refine wp_mono (h a1 w O R B p st s (hB.next hm.1 hk (Chg.refl (fun _ => False) _) (fun _ h => h.elim) hB.rs (Nat.le_refl _)) ⟨(hk.slot _ ⟨hm.2.1, hm.2.2⟩).trans hP.pt, hP.at_, hP.oB, hP.ne⟩ hpre) ?_
  intro e a2 w2 hq
  cases e <;> try exact hq
  obtain ⟨h1, h2⟩ := hq
  exact ⟨hk.trans h1, h2⟩
end
structure RvQ (E : REnv) (m : Nat) (sem : Bs → Option (D × Bs)) (f : Fld) (x : Nat) (a : Act) (w : World) (O : Nat → Prop) (R : Nat) (st : Option Bs) (a' : Act) (w' : World) : Prop where
  keep : za3 (RS m) a a'
  chg : Chg (fun k => k = R) w w'
  rs : RdS w' (fun g => ¬ O g) R ((st.bind sem).map (·.2))
  len : stLen ((st.bind sem).map (·.2)) ≤ stLen st
  val : ∃ d v, get a' x = v ∧ v.cells = #[v] ∧ v.oneCell' = true ∧ RepF w' (fun g => ¬ O g) E.fl f d [v] ∧ ∀ y, st.bind sem = some y → d = y.1
def RvX (Q : Act → World → Prop) : Exit → Act → World → Prop
  | .normal, a, w => Q a w
  | _, _, _ => False
def RvC (E : REnv) (m x : Nat) (f : Fld) (sem : Bs → Option (D × Bs)) (c : Code) : Prop :=
  ∀ (a : Act) (w : World) (O : Nat → Prop) (R : Nat) (st : Option Bs), RB E a w O R st → c.wp Tryd.prog (RvX (RvQ E m sem f x a w O R st)) a w
def Less {α : Type} (sem : Bs → Option (α × Bs)) : Prop := ∀ bs x r, sem bs = some (x, r) → r.length ≤ bs.length
theorem Less.st {α : Type} {sem : Bs → Option (α × Bs)} (h : Less sem) (st : Option Bs) : stLen ((st.bind sem).map (·.2)) ≤ stLen st := by
  cases st with
  | none => exact Nat.le_refl _
  | some bs =>
    rw [Option.bind_some]
    cases hs : sem bs with
    | none => exact Nat.zero_le _
    | some y => exact h bs y.1 y.2 hs
section
variable {y0 y1 y2 y3 y4 y5 y6 y7 y8 y9 y10 y11 y12 y13 y14 y15 y16 y17 y18 y19 y20 y21 y22 y23 y24 y25 y26 y27 y28 y29 y30 y31 y32 y33 y34 y35 y36 y37 y38 y39 : TypeId} {q0 q1 q2 q3 q4 q5 q6 q7 q8 q9 q10 q11 q12 q13 q14 q15 q16 q17 q18 q19 q20 q21 q22 q23 q24 q25 q26 q27 q28 q29 q30 q31 q32 q33 q34 q35 q36 q37 q38 q39 : String} {e0 e1 e2 e3 e4 e5 e6 e7 e8 e9 e10 e11 e12 e13 e14 e15 e16 e17 e18 e19 e20 e21 e22 e23 e24 e25 e26 e27 e28 e29 e30 e31 e32 e33 e34 e35 e36 e37 e38 e39 : Array Edge} {r0 r1 r2 r3 r4 r5 : Nat}
variable {E : REnv} {m sS k0 i x t t1 t2 t3 t4 : Nat} {fs : List Fld} {pre : S → Prop} {f : Fld} {sem : Bs → Option (D × Bs)} {c : Code} {us : Array TypeId} {fn : FuncId} {T ty idx off : Nat}
def rsl (E : REnv) (m : Nat) (wr rd : List Nat) : Bool := decide (8 < m) && (!E.fl || decide (9 < m)) && wr.all (fun d => decide (m ≤ d) && decide (d < E.N)) && rd.all (fun d => decide (d < m) && decide (d ≠ 6)) && decide wr.Nodup
theorem rsl_out {wr rd : List Nat} (h : rsl E m wr rd = true) : Low E m ∧ (∀ d ∈ wr, ¬ RS m d ∧ d < E.N ∧ m ≤ d) ∧ (∀ d ∈ rd, RS m d) ∧ wr.Nodup := by
  unfold rsl at h
  simp only [Bool.and_eq_true, decide_eq_true_eq, List.all_eq_true, Bool.or_eq_true, Bool.not_eq_true'] at h
  obtain ⟨⟨⟨⟨h1, h2⟩, h3⟩, h4⟩, h5⟩ := h
  refine ⟨⟨h1, fun e => ?_⟩, fun d hd => ⟨fun k => by have := (h3 d hd).1; have := k.1; omega, (h3 d hd).2, (h3 d hd).1⟩, fun d hd => h4 d hd, h5⟩
  rcases h2 with h | h
  · rw [e] at h; cases h
  · exact h
theorem rv_call {α : Type} {semA : Bs → Option (α × Bs)} {out : World → World → (Nat → Prop) → α → Value → Prop} (g : α → D) (hen : Enters Tryd.prog fn) (hc : RdF fn [] semA out)
    (hg : ∀ w w' (O : Nat → Prop) R y v, (∀ k, w.heap.size ≤ k → ¬ O k) → Chg (fun k => k = R) w w' → out w w' (fun k => ¬ O k) y v → v.cells = #[v] ∧ v.oneCell' = true ∧ RepF w' (fun k => ¬ O k) E.fl f (g y) [v]) (hless : Less semA)
    (hsl : rsl E m [t1, x] [7] = true) : RvC E m x f (fun bs => (semA bs).map fun y => (g y.1, y.2)) (.region r0 #[⟨some t1, .call { callee := .value (.func fn), args := #[.tmp 7], argTypes := us }, y0, q0, e0, none⟩, ⟨some x, .assign (.tmp t1), y1, q1, e1, none⟩] false) := by
  obtain ⟨hm, hw, hr, hnd⟩ := rsl_out hsl
  simp only [List.mem_cons, List.not_mem_nil, or_false, forall_eq_or_imp, forall_eq, List.nodup_cons, not_or, List.nodup_nil, and_true, not_false_eq_true] at hw hnd
  intro a w O R st hB
  have hN := hB.ok.1
  refine zag ?_
  refine wl_rd hen hc (by simp only [List.map_toArray, List.map_cons, List.map_nil, zah, hB.rd]) hB.rs (fun h => h hB.oR) hB.new ?_
  intro v w1 hv
  refine zaB ?_
  rw [zah, zae (by rw [hN]; exact hw.1.2.1)]
  refine zad ?_
  obtain ⟨y, k1, k2⟩ := hv.val
  obtain ⟨g1, g2, g3⟩ := hg w w1 O R y v hB.new hv.chg k1
  have hl : ∀ st : Option Bs, st.bind (fun bs => (semA bs).map fun y => (g y.1, y.2)) = (st.bind semA).map fun y => (g y.1, y.2) := fun st => by cases st <;> rfl
  have he : (st.bind (fun bs => (semA bs).map fun y => (g y.1, y.2))).map (·.2) = (st.bind semA).map (·.2) := by rw [hl, Option.map_map]; rfl
  refine ⟨((za3.refl _ _).put hw.1.1 _).put hw.2.1 _, hv.chg, by rw [he]; exact hv.rd, by rw [he]; exact hless.st st, g y, v, zae (by rw [zai, hN]; exact hw.2.2.1), g1, g2, g3, fun z hz => ?_⟩
  rw [hl] at hz
  cases hb : st.bind semA with
  | none => rw [hb] at hz; cases hz
  | some u =>
    rw [hb] at hz
    simp only [Option.map_some, Option.some.injEq] at hz
    rw [← hz, k2 u hb]
theorem rv_safe {cu : Code} (h : RvC E m x f sem c) (hsl : rsl E m [t] [2] = true) : RvC E m x f sem (.seq (.region r0 #[⟨some t, .move (.tmp 2), y0, q0, e0, none⟩] false) (.cond (.tmp t) cu c)) := by
  obtain ⟨hm, hw, hr, hnd⟩ := rsl_out hsl
  simp only [List.mem_cons, List.not_mem_nil, or_false, forall_eq] at hw
  intro a w O R st hB
  have hN := hB.ok.1
  refine wp_seq_k fun K hK => ?_
  refine zag ?_
  refine zaQ ?_
  rw [zah, hB.ok.2.2.1]
  refine zad (hK _ _ ?_)
  have hk : za3 (RS m) a (a.put (some t) (.bool false)) := (za3.refl _ _).put hw.1 _
  refine wp_cond_false (by rw [zah, zae (by rw [hN]; exact hw.2.1)]) ?_
  refine wp_mono (h _ w O R st (hB.next hm hk (Chg.refl (fun _ => False) _) (fun _ h => h.elim) hB.rs (Nat.le_refl _))) ?_
  intro e a1 w1 hq
  cases e <;> try exact hq.elim
  exact ⟨hk.trans hq.keep, hq.chg, hq.rs, hq.len, hq.val⟩
theorem rv_flex {ca cb : Code} (hfl : E.fl = true) (ha : E.flex = true → RvC E m x f sem ca) (hb : E.flex = false → RvC E m x f sem cb) (hsl : rsl E m [t] [9] = true) :
    RvC E m x f sem (.seq (.region r0 #[⟨some t, .move (.tmp 9), y0, q0, e0, none⟩] false) (.cond (.tmp t) ca cb)) := by
  obtain ⟨hm, hw, hr, hnd⟩ := rsl_out hsl
  simp only [List.mem_cons, List.not_mem_nil, or_false, forall_eq] at hw
  intro a w O R st hB
  have hN := hB.ok.1
  refine wp_seq_k fun K hK => ?_
  refine zag ?_
  refine zaQ ?_
  rw [zah, hB.ok.2.2.2.2 hfl]
  refine zad (hK _ _ ?_)
  have hk : za3 (RS m) a (a.put (some t) (.bool E.flex)) := (za3.refl _ _).put hw.1 _
  have hev : (a.put (some t) (.bool E.flex)).eval (.tmp t) = .bool E.flex := by rw [zah, zae (by rw [hN]; exact hw.2.1)]
  have hB1 := hB.next hm hk (Chg.refl (fun _ => False) _) (fun _ h => h.elim) hB.rs (Nat.le_refl _)
  have fin : ∀ e a1 w1, RvX (RvQ E m sem f x (a.put (some t) (.bool E.flex)) w O R st) e a1 w1 → RvX (RvQ E m sem f x a w O R st) e a1 w1 := by
    intro e a1 w1 hq
    cases e <;> try exact hq.elim
    exact ⟨hk.trans hq.keep, hq.chg, hq.rs, hq.len, hq.val⟩
  cases hx : E.flex with
  | true =>
    rw [hx] at hev
    rw [hx] at fin hB1
    exact wp_cond_true hev (wp_mono (ha hx _ w O R st hB1) fin)
  | false =>
    rw [hx] at hev
    rw [hx] at fin hB1
    exact wp_cond_false hev (wp_mono (hb hx _ w O R st hB1) fin)
theorem rv_pre {z : Value} (h : RvC E m x f sem c) (hsl : rsl E m [t] [] = true) : RvC E m x f sem (.seq (.region r0 #[⟨some t, .assign (.const z), y0, q0, e0, none⟩] false) c) := by
  obtain ⟨hm, hw, hr, hnd⟩ := rsl_out hsl
  simp only [List.mem_cons, List.not_mem_nil, or_false, forall_eq] at hw
  intro a w O R st hB
  refine wp_seq_k fun K hK => ?_
  refine zag ?_
  refine zaB ?_
  refine zad (hK _ _ ?_)
  have hk : za3 (RS m) a (a.put (some t) (a.eval (.const z))) := (za3.refl _ _).put hw.1 _
  refine wp_mono (h _ w O R st (hB.next hm hk (Chg.refl (fun _ => False) _) (fun _ h => h.elim) hB.rs (Nat.le_refl _))) ?_
  intro e a1 w1 hq
  cases e <;> try exact hq.elim
  exact ⟨hk.trans hq.keep, hq.chg, hq.rs, hq.len, hq.val⟩
theorem rv_again {y : Nat} (h : RvC E m x f sem c) (hsl : rsl E m [t, y] [] = true) :
    RvC E m y f sem (.seq c (.region r0 #[⟨some t, .move (.tmp x), y0, q0, e0, none⟩, ⟨some y, .assign (.tmp t), y1, q1, e1, none⟩] false)) := by
  obtain ⟨hm, hw, hr, hnd⟩ := rsl_out hsl
  simp only [List.mem_cons, List.not_mem_nil, or_false, forall_eq_or_imp, forall_eq, List.nodup_cons, not_or, List.nodup_nil, and_true, not_false_eq_true] at hw hnd
  intro a w O R st hB
  refine wp_seq (wp_mono (h a w O R st hB) ?_)
  intro e a1 w1 hq
  cases e <;> try exact hq.elim
  obtain ⟨q1, q2, q3, q4, d, v, q5, q6⟩ := hq
  have hN : a1.tmps.size = E.N := q1.size.trans hB.ok.1
  refine zag ?_
  refine zaQ ?_
  refine zaB ?_
  rw [zah, zah, zae (by rw [hN]; exact hw.1.2.1), q5]
  refine zad ⟨(q1.put hw.1.1 _).put hw.2.1 _, q2, q3, q4, d, v, zae (by rw [zai, hN]; exact hw.2.2.1), q6⟩
theorem splice_mid {l vs : List Value} {i k : Nat} (h : i + vs.length ≤ l.length) (hk : k < vs.length) : (zaL l i vs)[i + k]? = vs[k]? := by
  unfold zaL
  have e : (l.take i).length = i := by rw [List.length_take]; omega
  rw [List.append_assoc, List.getElem?_append_right (by omega), e, Nat.add_sub_cancel_left, List.getElem?_append_left hk]
theorem seg_splice {l vs : List Value} {o i n : Nat} (h : i + vs.length ≤ n) (hn : o + n ≤ l.length) : ((zaL l (o + i) vs).drop o).take n = zaL ((l.drop o).take n) i vs := by
  have hl : ((l.drop o).take n).length = n := by rw [List.length_take, List.length_drop]; omega
  have h1 : o + i + vs.length ≤ l.length := by omega
  have h2 : i + vs.length ≤ ((l.drop o).take n).length := by omega
  apply List.ext_getElem?
  intro j
  by_cases hj : j < n
  · rw [seg_get hj]
    by_cases c1 : j < i
    · rw [splice_below h1 (by omega), splice_below h2 c1, seg_get hj]
    · by_cases c2 : j < i + vs.length
      · obtain ⟨k, rfl⟩ : ∃ k, j = i + k := ⟨j - i, by omega⟩
        rw [splice_mid h2 (by omega), ← Nat.add_assoc, splice_mid h1 (by omega)]
      · rw [splice_above h1 (by omega), splice_above h2 (by omega), seg_get hj]
  · rw [List.getElem?_eq_none (by rw [List.length_take]; omega), List.getElem?_eq_none (by rw [splice_length h2, hl]; omega)]
theorem at_set {w w' : World} {G : Nat → Prop} {fl : Bool} {s : S} {B o i : Nat} {f : Fld} {d : D} {vs cs : List Value} {T : TypeId} {X : Nat → Prop} (h : At w G fl fs s B o) (hf : fs[i]? = some f) (hr : RepF w' G fl f d vs) (hl : vs.length = fsz fl f)
    (hb : Blk w B cs T) (hb' : Blk w' B (zaL cs (o + foff fl fs i) vs) T) (hc : Chg X w w') (hX : ∀ k, G k → k < w.heap.size → ¬ X k) : At w' G fl fs { s with ds := s.ds.set i d } B o := by
  obtain ⟨cs0, T0, h1, h2, v1, v2, h3, h4, h5⟩ := h
  obtain ⟨rfl, rfl⟩ := h1.inj hb
  have st : Stay w w' G G := Stay.of hc hX
  have l1 := h4.len.1
  have hoff : foff fl fs i + fsz fl f ≤ lsz fl fs := by
    obtain ⟨_, _, _, h6⟩ := h4.get hf
    omega
  have hsz : lsz fl fs ≤ ssz fl fs := by unfold ssz; omega
  have hlen : o + foff fl fs i + vs.length ≤ cs0.length := by omega
  refine ⟨_, _, hb', by rw [splice_length hlen]; exact h2, zaL v1 (foff fl fs i) vs, v2, ?_, (RepL.stay st h4).set hf hr hl, h5.stay st⟩
  have hv1 : zaL v1 (foff fl fs i) vs ++ v2 = zaL (v1 ++ v2) (foff fl fs i) vs := by
    unfold zaL
    rw [List.take_append_of_le_length (by omega), List.drop_append_of_le_length (by omega)]
    simp only [List.append_assoc]
  rw [hv1, ← h3]
  exact seg_splice (by omega) h2
end
end Go.Proofs.YtgjnllebnkjofaaDoor
namespace Go.Proofs.YtgjnllebnkjofaaDoor
set_option linter.all false
open Go.RowKit
set_option maxRecDepth 10000
section
variable {y0 y1 y2 y3 y4 y5 y6 y7 y8 y9 y10 y11 y12 y13 y14 y15 y16 y17 y18 y19 y20 y21 y22 y23 y24 y25 y26 y27 y28 y29 y30 y31 y32 y33 y34 y35 y36 y37 y38 y39 : TypeId} {q0 q1 q2 q3 q4 q5 q6 q7 q8 q9 q10 q11 q12 q13 q14 q15 q16 q17 q18 q19 q20 q21 q22 q23 q24 q25 q26 q27 q28 q29 q30 q31 q32 q33 q34 q35 q36 q37 q38 q39 : String} {e0 e1 e2 e3 e4 e5 e6 e7 e8 e9 e10 e11 e12 e13 e14 e15 e16 e17 e18 e19 e20 e21 e22 e23 e24 e25 e26 e27 e28 e29 e30 e31 e32 e33 e34 e35 e36 e37 e38 e39 : Array Edge} {r0 r1 r2 r3 r4 r5 : Nat}
variable {E : REnv} {m sS k0 i I x y t t1 t2 t3 t4 t5 : Nat} {fs : List Fld} {pre : S → Prop} {f : Fld} {sem : Bs → Option (D × Bs)} {semS : Sem} {c c1 c2 : Code} {us : Array TypeId} {fn : FuncId} {T ty idx off n : Nat}
theorem stp_set {st : Option Bs} {s : S} {d : D} (h : ∀ y, st.bind sem = some y → d = y.1) : Stp (semSet i sem) st s ((st.bind sem).map (·.2)) { s with ds := s.ds.set i d } := by
  unfold Stp
  have e : st.bind (semSet i sem s) = (st.bind sem).map fun x => ({ s with ds := s.ds.set i x.1 }, x.2) := by cases st <;> rfl
  rw [e]
  cases hb : st.bind sem with
  | none => rfl
  | some y => exact ⟨rfl, by rw [h y hb]⟩
theorem set_field {w w1 w2 : World} {O : Nat → Prop} {R B p : Nat} {a a2 : Act} {st : Option Bs} {s : S} {d : D} {cs vs : List Value} {Tb : TypeId} (hP : RP E sS k0 fs a w O R B p s) (hB : RB E a w O R st) (hf : fs[i]? = some f)
    (hk : za3 (RS m) a a2) (hc : Chg (fun k => k = R) w w1) (hrs : RdS w1 (fun g => ¬ O g) R ((st.bind sem).map (·.2))) (hl : stLen ((st.bind sem).map (·.2)) ≤ stLen st) (hv : RepF w1 (fun g => ¬ O g) E.fl f d vs) (hvs : vs.length = fsz E.fl f) (hd : ∀ y, st.bind sem = some y → d = y.1)
    (hb : Blk w B cs Tb) (hb2 : Blk w2 B (zaL cs (p + k0 + foff E.fl fs i) vs) Tb) (hc2 : Chg (fun k => k = B) w1 w2) : RdQ E m k0 fs (i + 1) (semSet i sem) a w O R B p st s .normal a2 w2 := by
  have hXB : ∀ k, ¬ O k → k < w1.heap.size → ¬ k = B := fun k hk _ e => hk (e ▸ hP.oB)
  have st1 : Stay w1 w2 (fun g => ¬ O g) (fun g => ¬ O g) := Stay.of hc2 hXB
  have hall : Chg (fun k => k = R ∨ k = B) w w2 := (hc.mono fun _ _ h => Or.inl h).trans (hc2.mono fun _ _ h => Or.inr h) fun _ _ h => h
  have hfo : foff E.fl fs i + fsz E.fl f ≤ lsz E.fl fs := by
    obtain ⟨cs0, T0, g1, g2, v1, v2, g3, g4, g5⟩ := hP.at_
    obtain ⟨_, _, _, h6⟩ := g4.get hf
    have := g4.len.1
    omega
  have hsz : lsz E.fl fs ≤ ssz E.fl fs := by unfold ssz; omega
  refine ⟨hk, hall, ?_, _, _, hrs.stay st1 (hc2.block R hrs.lt hP.ne), at_set hP.at_ hf (hv.stay st1) hvs hb hb2 hall fun k hk _ e => hk (by rcases e with rfl | rfl; exact hB.oR; exact hP.oB), stp_set hd, hl, fun j hj => ?_⟩
  · intro cs0 T0 hb0
    obtain ⟨rfl, rfl⟩ := hb0.inj hb
    have hle : p + k0 + foff E.fl fs i + vs.length ≤ cs0.length := by
      obtain ⟨cs1, T1, g1, g2, _⟩ := hP.at_
      have := (g1.inj hb0).1
      subst this
      omega
    refine ⟨_, hb2, splice_length hle, fun j hj => ?_⟩
    rcases hj with hj | hj
    · exact splice_below hle (by omega)
    · exact splice_above hle (by omega)
  · show (s.ds.set i d)[j]? = _
    rw [List.getElem?_set_ne (by omega)]
theorem wp_put {a a1 : Act} {w w1 : World} {O : Nat → Prop} {R B p : Nat} {st : Option Bs} {s : S} (hB : RB E a w O R st) (hP : RP E sS k0 fs a w O R B p s) (hq : RvQ E m sem f x a w O R st a1 w1) (hf : fs[i]? = some f)
    (hF : (decide (fsz E.fl f = 1) && fieldB Tryd.prog T idx (k0 + foff E.fl fs i) 1 && sizeB Tryd.prog ty 1) = true) (hsl : rsl E m [t1, t2, t3, t4] [sS, 7] = true) (hx : [t1, t2, t3, t4].all (fun t => decide (t ≠ x)) = true) :
    (Code.region r0 #[⟨some t1, .move (.tmp sS), y0, q0, e0, none⟩, ⟨some t2, .move (.tmp x), y1, q1, e1, none⟩, ⟨some t3, .nilCheck (.tmp t1), y2, q2, e2, none⟩, ⟨some t4, .fieldAddr T (.tmp t3) idx, y3, q3, e3, none⟩, ⟨none, .store ty (.tmp t4) (.tmp t2), y4, q4, e4, none⟩] false).wp Tryd.prog (RdQ E m k0 fs (i + 1) (semSet i sem) a w O R B p st s) a1 w1 := by
  simp only [Bool.and_eq_true, decide_eq_true_eq] at hF
  obtain ⟨⟨f1, f2⟩, f3⟩ := hF
  obtain ⟨hm, hw, hr, hnd⟩ := rsl_out hsl
  simp only [List.mem_cons, List.not_mem_nil, or_false, forall_eq_or_imp, forall_eq, List.nodup_cons, not_or, List.nodup_nil, and_true, not_false_eq_true, List.all_cons, List.all_nil, Bool.and_true, Bool.and_eq_true, decide_eq_true_eq] at hw hnd hr hx
  obtain ⟨q1, q2, q3, q4, d, v, q5, q6, q6b, q7, q8⟩ := hq
  have hN : a1.tmps.size = E.N := q1.size.trans hB.ok.1
  have hs : get a1 sS = .pointer (some ⟨B, p, none⟩) := (q1.slot _ hr.1).trans hP.pt
  obtain ⟨cs, Tb, k1, k2⟩ := hP.at_
  have hfo : foff E.fl fs i + 1 ≤ lsz E.fl fs := by
    obtain ⟨_, v1, v2, g3, g4, g5⟩ := k2
    obtain ⟨_, _, _, h6⟩ := g4.get hf
    have := g4.len.1
    omega
  have hsz : lsz E.fl fs ≤ ssz E.fl fs := by unfold ssz; omega
  have hb1 : Blk w1 B cs Tb := k1.chg q2 (fun e => hP.ne e.symm)
  have hlt : ∀ t, t ∈ [t1, t2, t3, t4] → t < E.N := fun t ht => by simp only [List.mem_cons, List.not_mem_nil, or_false] at ht; rcases ht with rfl | rfl | rfl | rfl <;> simp only [hw]
  refine zag ?_
  refine zaQ ?_
  rw [zah, hs]
  refine zaQ ?_
  rw [zah, zac hx.1, q5]
  refine wl_nilCheck (p := ⟨B, p, none⟩) (by simp only [zah, zae, zac, zak, ne_eq, zai, hN, hnd, hw, not_false_eq_true]) ?_
  refine wl_fieldAddr (b := B) (o := p) f2 (by simp only [zah, zae, zac, zak, ne_eq, zai, hN, hnd, hw, not_false_eq_true]) ?_
  refine wl_store (b := B) (o := p + (k0 + foff E.fl fs i)) (n := 1) (v := v) f3 (by simp only [zah, zae, zac, zak, ne_eq, zai, hN, hnd, hw, not_false_eq_true]) (by simp only [zah, zae, zac, zak, ne_eq, zai, hN, hnd, hw, not_false_eq_true]) hb1 (by rw [q6]; rfl) (by intro u hu; rw [q6] at hu; simp only [List.mem_singleton] at hu; subst hu; exact q6b) (by have := k2.1; omega) fun w2 hb2 hc2 => ?_
  rw [q6] at hb2
  refine zad ?_
  rw [show p + (k0 + foff E.fl fs i) = p + k0 + foff E.fl fs i by omega] at hb2
  exact set_field hP hB hf ((((q1.put hw.1.1 _).put hw.2.1.1 _).put hw.2.2.1.1 _).put hw.2.2.2.1 _) q2 q3 q4 q7 (by rw [f1]; rfl) q8 k1 hb2 hc2
theorem rf_store (h : RvC E m x f sem c) (hf : fs[i]? = some f) (hF : (decide (fsz E.fl f = 1) && fieldB Tryd.prog T idx (k0 + foff E.fl fs i) 1 && sizeB Tryd.prog ty 1) = true) (hsl : rsl E m [t1, t2, t3, t4] [sS, 7] = true) (hx : [t1, t2, t3, t4].all (fun t => decide (t ≠ x)) = true) :
    RdC E m sS k0 fs (i + 1) pre (semSet i sem) (.seq c (.region r0 #[⟨some t1, .move (.tmp sS), y0, q0, e0, none⟩, ⟨some t2, .move (.tmp x), y1, q1, e1, none⟩, ⟨some t3, .nilCheck (.tmp t1), y2, q2, e2, none⟩, ⟨some t4, .fieldAddr T (.tmp t3) idx, y3, q3, e3, none⟩, ⟨none, .store ty (.tmp t4) (.tmp t2), y4, q4, e4, none⟩] false)) := by
  intro a w O R B p st s hB hP _
  refine wp_seq (wp_mono (h a w O R st hB) ?_)
  intro e a1 w1 hq
  cases e <;> try exact hq.elim
  exact wp_put hB hP hq hf hF hsl hx
theorem rf_store2 (h : RvC E m x f sem c) (hf : fs[i]? = some f) (hF : (decide (fsz E.fl f = 1) && fieldB Tryd.prog T idx (k0 + foff E.fl fs i) 1 && sizeB Tryd.prog ty 1) = true) (hsl0 : rsl E m [t5, y] [] = true) (hsl : rsl E m [t1, t2, t3, t4] [sS, 7] = true) (hx : [t1, t2, t3, t4].all (fun t => decide (t ≠ y)) = true) :
    RdC E m sS k0 fs (i + 1) pre (semSet i sem) (.seq c (.seq (.region r1 #[⟨some t5, .move (.tmp x), y0, q0, e0, none⟩, ⟨some y, .assign (.tmp t5), y1, q1, e1, none⟩] false) (.region r0 #[⟨some t1, .move (.tmp sS), y2, q2, e2, none⟩, ⟨some t2, .move (.tmp y), y3, q3, e3, none⟩, ⟨some t3, .nilCheck (.tmp t1), y4, q4, e4, none⟩, ⟨some t4, .fieldAddr T (.tmp t3) idx, y5, q5, e5, none⟩, ⟨none, .store ty (.tmp t4) (.tmp t2), y6, q6, e6, none⟩] false))) := by
  obtain ⟨hm, hw, hr, hnd⟩ := rsl_out hsl0
  simp only [List.mem_cons, List.not_mem_nil, or_false, forall_eq_or_imp, forall_eq, List.nodup_cons, not_or, List.nodup_nil, and_true, not_false_eq_true] at hw hnd
  intro a w O R B p st s hB hP _
  refine wp_seq (wp_mono (h a w O R st hB) ?_)
  intro e a1 w1 hq
  cases e <;> try exact hq.elim
  obtain ⟨q1, q2, q3, q4, d, v, q5, q6⟩ := hq
  have hN : a1.tmps.size = E.N := q1.size.trans hB.ok.1
  refine wp_seq_k fun K hK => ?_
  refine zag ?_
  refine zaQ ?_
  refine zaB ?_
  rw [zah, zah, zae (by rw [hN]; exact hw.1.2.1), q5]
  refine zad (hK _ _ ?_)
  exact wp_put hB hP ⟨(q1.put hw.1.1 _).put hw.2.1 _, q2, q3, q4, d, v, zae (by rw [zai, hN]; exact hw.2.2.1), q6⟩ hf hF hsl hx
theorem rd_pre {z : Value} (h : RdC E m sS k0 fs I pre semS c) (hsl : rsl E m [t] [sS] = true) : RdC E m sS k0 fs I pre semS (.seq (.region r0 #[⟨some t, .assign (.const z), y0, q0, e0, none⟩] false) c) := by
  obtain ⟨hm, hw, hr, hnd⟩ := rsl_out hsl
  simp only [List.mem_cons, List.not_mem_nil, or_false, forall_eq] at hw hr
  intro a w O R B p st s hB hP hp
  refine wp_seq_k fun K hK => ?_
  refine zag ?_
  refine zaB ?_
  refine zad (hK _ _ ?_)
  exact rd_go ⟨hm, hr.1, hr.2⟩ h hB hP hp ((za3.refl _ _).put hw.1 _)
def semFld (E : REnv) (f : Fld) (i : Nat) : Sem := if decide (f.tag < 0) && f.has E.ver then semSet i (decF E.flex E.ver f) else fun s bs => some (s, bs)
def semL (E : REnv) (fs : List Fld) (i : Nat) (tl : Sem) : Sem := fun s bs => (decL E.flex E.ver (fs.drop i) bs).bind fun x => tl ⟨s.ds.take i ++ x.1, s.tags⟩ x.2
def Fresh (fs : List Fld) (i : Nat) (s : S) : Prop := ∀ j f, i ≤ j → fs[j]? = some f → s.ds[j]? = some (dfltF f)
theorem Fresh.up {i j : Nat} {s : S} (h : Fresh fs i s) (hij : i ≤ j) : Fresh fs j s := fun k f hk hf => h k f (by omega) hf
theorem Fresh.on {i j : Nat} {s s' : S} (h : Fresh fs i s) (hij : i ≤ j) (hs : ∀ k, j ≤ k → s'.ds[k]? = s.ds[k]?) : Fresh fs j s' := fun k f hk hf => (hs k hk).trans (h k f (by omega) hf)
theorem semL_step {tl : Sem} {s : S} {bs : Bs} (hf : fs[i]? = some f) (hr : Fresh fs i s) (hl : s.ds.length = fs.length) : semL E fs i tl s bs = (semFld E f i s bs).bind fun x => semL E fs (i + 1) tl x.1 x.2 := by
  obtain ⟨hi, he⟩ := List.getElem?_eq_some_iff.1 hf
  have hd := hr i f (Nat.le_refl _) hf
  unfold semL semFld
  rw [List.drop_eq_getElem_cons hi, he, decL]
  have hlt : i < s.ds.length := by omega
  split
  · unfold semSet
    cases h : decF E.flex E.ver f bs with
    | none => rfl
    | some x =>
      simp only [Option.bind_some, Option.map_some]
      cases h2 : decL E.flex E.ver (fs.drop (i + 1)) x.2 with
      | none => rfl
      | some y =>
        simp only [Option.map_some, Option.bind_some]
        rw [List.take_succ, List.take_set_of_le (by omega), List.getElem?_set_self hlt]
        simp only [Option.toList_some, List.append_assoc, List.singleton_append]
  · simp only [Option.bind_some]
    cases h2 : decL E.flex E.ver (fs.drop (i + 1)) bs with
    | none => rfl
    | some y =>
      simp only [Option.map_some, Option.bind_some]
      rw [List.take_succ, hd]
      simp only [Option.toList_some, List.append_assoc, List.singleton_append]
theorem semL_end {tl : Sem} {s : S} {bs : Bs} (h : fs.length ≤ i) (hl : s.ds.length = fs.length) : semL E fs i tl s bs = tl s bs := by
  unfold semL
  rw [List.drop_of_length_le h, decL, Option.bind_some, List.append_nil, List.take_of_length_le (by omega)]
theorem rd_next {tl : Sem} (hf : fs[i]? = some f) (hsl : rsl E m [] [sS] = true) (hI : decide (i + 1 ≤ I) = true) (h1 : RdC E m sS k0 fs (i + 1) (Fresh fs i) (semFld E f i) c1) (h2 : RdC E m sS k0 fs I (Fresh fs (i + 1)) (semL E fs (i + 1) tl) c2) :
    RdC E m sS k0 fs I (Fresh fs i) (semL E fs i tl) (.seq c1 c2) := by
  obtain ⟨hm, hw, hr, hnd⟩ := rsl_out hsl
  simp only [List.mem_cons, List.not_mem_nil, or_false, forall_eq] at hr
  exact rd_seq ⟨hm, hr.1, hr.2⟩ h1 h2 (of_decide_eq_true hI) (Nat.le_refl _) (fun _ h => h) (fun s s' h _ hs => h.on (by omega) hs) fun s bs h hl => semL_step hf h hl
theorem rd_last (hf : fs[i]? = some f) (hl : decide (fs.length = i + 1) = true) (hI : decide (i + 1 ≤ I) = true) (h1 : RdC E m sS k0 fs (i + 1) (Fresh fs i) (semFld E f i) c1) : RdC E m sS k0 fs I (Fresh fs i) (semL E fs i fun s bs => some (s, bs)) c1 := by
  refine rd_mono h1 (Nat.le_refl _) (of_decide_eq_true hI) (fun _ h => h) fun s bs h hlen => ?_
  rw [semL_step hf h hlen]
  cases hh : semFld E f i s bs with
  | none => rfl
  | some x =>
    rw [Option.bind_some]
    have hx : x.1.ds.length = fs.length := by
      unfold semFld at hh
      split at hh
      · unfold semSet at hh
        cases h2 : decF E.flex E.ver f bs with
        | none => rw [h2] at hh; cases hh
        | some y => rw [h2] at hh; simp only [Option.map_some, Option.some.injEq] at hh; rw [← hh]; simpa using hlen
      · simp only [Option.some.injEq] at hh; rw [← hh]; exact hlen
    exact semL_end (by have := of_decide_eq_true hl; omega) hx
theorem rd_tagged {tl : Sem} (hf : fs[i]? = some f) (ht : decide (0 ≤ f.tag) = true) (h : RdC E m sS k0 fs I (Fresh fs (i + 1)) (semL E fs (i + 1) tl) c) : RdC E m sS k0 fs I (Fresh fs i) (semL E fs i tl) c := by
  refine rd_mono h (Nat.le_refl _) (Nat.le_refl _) (fun _ h => h.up (by omega)) fun s bs hfr hlen => ?_
  rw [semL_step hf hfr hlen]
  unfold semFld
  have := of_decide_eq_true ht
  rw [if_neg (by simp; omega)]
  rfl
theorem rd_end {tl : Sem} (hl : decide (fs.length ≤ i) = true) (h : RdC E m sS k0 fs I (fun _ => True) tl c) : RdC E m sS k0 fs I (Fresh fs i) (semL E fs i tl) c :=
  rd_mono h (Nat.le_refl _) (Nat.le_refl _) (fun _ _ => trivial) fun s bs _ hlen => semL_end (of_decide_eq_true hl) hlen
theorem sf_all (hf : (decide (f.tag < 0) && decide (f.from_ ≤ 0) && decide (f.to < 0)) = true) (hv : 0 ≤ E.ver) (h : RdC E m sS k0 fs I pre (semSet i (decF E.flex E.ver f)) c) : RdC E m sS k0 fs I pre (semFld E f i) c := by
  simp only [Bool.and_eq_true, decide_eq_true_eq] at hf
  have e : (decide (f.tag < 0) && f.has E.ver) = true := by
    unfold Fld.has
    simp only [Bool.and_eq_true, Bool.or_eq_true, decide_eq_true_eq]
    omega
  unfold semFld
  rw [if_pos e]; exact h
theorem sf_cond {b : Bool} (he : (decide (f.tag < 0) && f.has E.ver) = b) (hsl : rsl E m [] [sS] = true) (h : b = true → RdC E m sS k0 fs I pre (semSet i (decF E.flex E.ver f)) c) {a a1 : Act} {w : World} {O : Nat → Prop} {R B p : Nat} {st : Option Bs} {s : S}
    (hB : RB E a w O R st) (hP : RP E sS k0 fs a w O R B p s) (hp : pre s) (hk : za3 (RS m) a a1) (hev : a1.eval (.tmp t) = .bool b) : (Code.cond (.tmp t) c .skip).wp Tryd.prog (RdQ E m k0 fs I (semFld E f i) a w O R B p st s) a1 w := by
  obtain ⟨hm, hw, hr, hnd⟩ := rsl_out hsl
  simp only [List.mem_cons, List.not_mem_nil, or_false, forall_eq] at hr
  unfold semFld
  rw [he]
  cases b with
  | true => exact wp_cond_true hev (rd_go ⟨hm, hr.1, hr.2⟩ (h rfl) hB hP hp hk)
  | false => exact wp_cond_false hev (rd_go ⟨hm, hr.1, hr.2⟩ rd_skip hB hP hp hk)
theorem sf_from {u : Nat} {n : Int} (hf : (decide (f.tag < 0) && decide (f.from_ = n) && decide (f.to < 0)) = true) (hsl : rsl E m [t1, t2] [8, sS] = true) (h : n ≤ E.ver → RdC E m sS k0 fs I pre (semSet i (decF E.flex E.ver f)) c) :
    RdC E m sS k0 fs I pre (semFld E f i) (.seq (.region r0 #[⟨some t1, .move (.tmp 8), y0, q0, e0, none⟩, ⟨some t2, .binOp .geq u (.tmp t1) (.const (.int .i16 n)) u, y1, q1, e1, none⟩] false) (.cond (.tmp t2) c .skip)) := by
  simp only [Bool.and_eq_true, decide_eq_true_eq] at hf
  have e : (decide (f.tag < 0) && f.has E.ver) = decide (n ≤ E.ver) := by
    unfold Fld.has
    rw [Bool.eq_iff_iff]
    simp only [Bool.and_eq_true, Bool.or_eq_true, decide_eq_true_eq]
    omega
  have hsl' : rsl E m [] [sS] = true := by
    unfold rsl at hsl ⊢
    simp only [Bool.and_eq_true, List.all_cons, List.all_nil] at hsl ⊢
    exact ⟨⟨⟨hsl.1.1.1, trivial⟩, ⟨hsl.1.2.2.1, trivial⟩⟩, rfl⟩
  obtain ⟨hm, hw, hr, hnd⟩ := rsl_out hsl
  simp only [List.mem_cons, List.not_mem_nil, or_false, forall_eq_or_imp, forall_eq, List.nodup_cons, not_or, List.nodup_nil, and_true, not_false_eq_true] at hw hnd
  intro a w O R B p st s hB hP hp
  have hN := hB.ok.1
  refine wp_seq_k fun K hK => ?_
  refine zag ?_
  refine zaQ ?_
  rw [zah, hB.ok.2.2.2.1]
  have hx1 : (a.put (some t1) (.int .i16 E.ver)).eval (.tmp t1) = .int .i16 E.ver := by rw [zah, zae (by rw [hN]; exact hw.1.2.1)]
  refine wl_geq (by rw [hx1]; rfl) ?_
  rw [hx1]
  simp only [zaj, cmp2]
  refine zad (hK _ _ ?_)
  exact sf_cond e hsl' (fun hb => h (of_decide_eq_true hb)) hB hP hp (((za3.refl _ _).put hw.1.1 _).put hw.2.1 _) (by rw [zah, zae (by rw [zai, hN]; exact hw.2.2.1)])
theorem sf_range {u : Nat} {n n2 : Int} {t6 : Nat} (hf : (decide (f.tag < 0) && decide (f.from_ = n) && decide (f.to = n2) && decide (0 ≤ n2)) = true) (hsl : rsl E m [t1, t2, t3, t4, t5, t6] [8, sS] = true) (h : n ≤ E.ver → E.ver ≤ n2 → RdC E m sS k0 fs I pre (semSet i (decF E.flex E.ver f)) c) :
    RdC E m sS k0 fs I pre (semFld E f i) (.seq (.region r0 #[⟨some t1, .move (.tmp 8), y0, q0, e0, none⟩, ⟨some t2, .binOp .geq u (.tmp t1) (.const (.int .i16 n)) u, y1, q1, e1, none⟩, ⟨some t3, .move (.tmp t2), y2, q2, e2, none⟩, ⟨some t4, .move (.tmp 8), y10, q10, e10, some (2, true)⟩, ⟨some t5, .binOp .leq u (.tmp t4) (.const (.int .i16 n2)) u, y11, q11, e11, some (2, true)⟩, ⟨some t6, .pick (.tmp t3) (.tmp t5) (.const (.bool false)), y3, q3, e3, none⟩] false) (.cond (.tmp t6) c .skip)) := by
  simp only [Bool.and_eq_true, decide_eq_true_eq] at hf
  have e : (decide (f.tag < 0) && f.has E.ver) = (decide (n ≤ E.ver) && decide (E.ver ≤ n2)) := by
    unfold Fld.has
    rw [Bool.eq_iff_iff]
    simp only [Bool.and_eq_true, Bool.or_eq_true, decide_eq_true_eq]
    omega
  have hsl' : rsl E m [] [sS] = true := by
    unfold rsl at hsl ⊢
    simp only [Bool.and_eq_true, List.all_cons, List.all_nil] at hsl ⊢
    exact ⟨⟨⟨hsl.1.1.1, trivial⟩, ⟨hsl.1.2.2.1, trivial⟩⟩, rfl⟩
  obtain ⟨hm, hw, hr, hnd⟩ := rsl_out hsl
  simp only [List.mem_cons, List.not_mem_nil, or_false, forall_eq_or_imp, forall_eq, List.nodup_cons, not_or, List.nodup_nil, and_true, not_false_eq_true] at hw hnd hr
  have sym : ∀ {a b : Nat}, ¬ a = b → ¬ b = a := fun h e => h e.symm
  obtain ⟨⟨n12, n13, n14, n15, n16⟩, ⟨n23, n24, n25, n26⟩, ⟨n34, n35, n36⟩, ⟨n45, n46⟩, n56⟩ := id hnd
  have hnr := And.intro (sym n12) (And.intro (sym n13) (And.intro (sym n14) (And.intro (sym n15) (And.intro (sym n16) (And.intro (sym n23) (And.intro (sym n24) (And.intro (sym n25) (And.intro (sym n26) (And.intro (sym n34) (And.intro (sym n35) (And.intro (sym n36) (And.intro (sym n45) (And.intro (sym n46) (sym n56))))))))))))))
  intro a w O R B p st s hB hP hp
  have hN := hB.ok.1
  have g8 := hB.ok.2.2.2.1
  have hE8 : ∀ t, m ≤ t → t ≠ 8 := fun t ht e => by have := hr.1.1; omega
  refine wp_seq_k fun K hK => ?_
  refine zag ?_
  refine zaQ ?_
  rw [zah, g8]
  have ev : ∀ (d t : Nat) (a : Act) (v : Value), d < a.tmps.size → get (a.put (some d) v) t = if d = t then v else get a t := fun d t a v h => get_put h
  refine wl_geq (by simp only [zah, zaj, ev, zai, hN, hw, hnd, hnr, if_true, if_false]; rfl) ?_
  simp only [zah, zaj, ev, zai, hN, hw, hnd, hnr, if_true, if_false, cmp2]
  refine zaQ ?_
  simp only [zah, zaj, ev, zai, hN, hw, hnd, hnr, if_true, if_false]
  by_cases hc : n ≤ E.ver
  · rw [decide_eq_true hc] at e ⊢
    refine zal rfl rfl (by simp only [ev, zai, hN, hw, hnd, hnr, if_true, if_false]) ?_
    refine zaQ ?_
    refine zal rfl rfl (by simp only [ev, zai, hN, hw, hnd, hnr, if_true, if_false]) ?_
    simp only [zah, zaj, ev, zai, hN, hw, hnd, hnr, if_true, if_false, hE8 t1 hw.1.2.2, hE8 t2 hw.2.1.2.2, hE8 t3 hw.2.2.1.2.2, g8]
    refine wl_leq (by simp only [zah, zaj, ev, zai, hN, hw, hnd, hnr, if_true, if_false]; rfl) ?_
    simp only [zah, zaj, ev, zai, hN, hw, hnd, hnr, if_true, if_false, cmp2]
    refine zan (by simp only [zah, ev, zai, hN, hw, hnd, hnr, if_true, if_false]) ?_
    simp only [zah, zaj, ev, zai, hN, hw, hnd, hnr, if_true, if_false]
    refine zad (hK _ _ ?_)
    rw [Bool.true_and] at e
    exact sf_cond e hsl' (fun hb => h hc (of_decide_eq_true hb)) hB hP hp ((((((((za3.refl _ _).put hw.1.1 _).put hw.2.1.1 _).put hw.2.2.1.1 _).put hw.2.2.2.1.1 _).put hw.2.2.2.2.1.1 _).put hw.2.2.2.2.2.1 _)) (by simp only [zah, ev, zai, hN, hw, hnd, hnr, if_true, if_false])
  · rw [decide_eq_false hc] at e ⊢
    refine zao rfl rfl (by simp only [ev, zai, hN, hw, hnd, hnr, if_true, if_false]; rfl) ?_
    refine zao rfl rfl (by simp only [ev, zai, hN, hw, hnd, hnr, if_true, if_false]; rfl) ?_
    refine zam (by simp only [zah, ev, zai, hN, hw, hnd, hnr, if_true, if_false]) ?_
    refine zad (hK _ _ ?_)
    rw [Bool.false_and] at e
    exact sf_cond e hsl' (fun hb => by cases hb) hB hP hp ((((((((za3.refl _ _).put hw.1.1 _).put hw.2.1.1 _).put hw.2.2.1.1 _).put hw.2.2.2.1.1 _).put hw.2.2.2.2.1.1 _).put hw.2.2.2.2.2.1 _)) (by simp only [zah, zaj, ev, zai, hN, hw, hnd, hnr, if_true, if_false])
end
end Go.Proofs.YtgjnllebnkjofaaDoor
namespace Go.Proofs.YtgjnllebnkjofaaDoor
set_option linter.all false
open Go.RowKit
set_option maxRecDepth 10000
set_option maxHeartbeats 2000000
abbrev Rep := World → (Nat → Prop) → D → List Value → Prop
section
variable {y0 y1 y2 y3 y4 y5 y6 y7 y8 y9 y10 y11 y12 y13 y14 y15 y16 y17 y18 y19 y20 y21 y22 y23 y24 y25 y26 y27 y28 y29 y30 y31 y32 y33 y34 y35 y36 y37 y38 y39 : TypeId} {q0 q1 q2 q3 q4 q5 q6 q7 q8 q9 q10 q11 q12 q13 q14 q15 q16 q17 q18 q19 q20 q21 q22 q23 q24 q25 q26 q27 q28 q29 q30 q31 q32 q33 q34 q35 q36 q37 q38 q39 : String} {e0 e1 e2 e3 e4 e5 e6 e7 e8 e9 e10 e11 e12 e13 e14 e15 e16 e17 e18 e19 e20 e21 e22 e23 e24 e25 e26 e27 e28 e29 e30 e31 e32 e33 e34 e35 e36 e37 e38 e39 : Array Edge} {r0 r1 r2 r3 r4 r5 : Nat}
variable {E : REnv} {m sS k0 i I x aS iS lS t t1 t2 t3 t4 t5 t6 t7 sz b1 b2 u : Nat} {one : Bs → Option (D × Bs)} {rep : Rep} {zc : List Value} {c body : Code}
end
end Go.Proofs.YtgjnllebnkjofaaDoor
namespace Go.Proofs.YtgjnllebnkjofaaDoor
set_option linter.all false
open Go.RowKit
set_option maxRecDepth 10000
set_option maxHeartbeats 1000000
section
variable {y0 y1 y2 y3 y4 y5 y6 y7 y8 y9 y10 y11 y12 y13 y14 y15 y16 y17 y18 y19 y20 y21 y22 y23 y24 y25 y26 y27 y28 y29 y30 y31 y32 y33 y34 y35 y36 y37 y38 y39 : TypeId} {q0 q1 q2 q3 q4 q5 q6 q7 q8 q9 q10 q11 q12 q13 q14 q15 q16 q17 q18 q19 q20 q21 q22 q23 q24 q25 q26 q27 q28 q29 q30 q31 q32 q33 q34 q35 q36 q37 q38 q39 : String} {e0 e1 e2 e3 e4 e5 e6 e7 e8 e9 e10 e11 e12 e13 e14 e15 e16 e17 e18 e19 e20 e21 e22 e23 e24 e25 e26 e27 e28 e29 e30 e31 e32 e33 e34 e35 e36 e37 e38 e39 : Array Edge} {r0 r1 r2 r3 r4 r5 : Nat}
variable {E : REnv} {m sS k0 i I x aS iS lS vS t t1 t2 t3 t4 t5 t6 t7 t8 t9 tt1 tt2 tt3 b1 b2 u uo uc ui : Nat} {fs sub : List Fld} {pre : S → Prop} {c body cl : Code} {us us2 us3 : Array TypeId} {fn : FuncId} {T ty idx off : Nat} {a1 a2 a3 a4 a5 : Int} {of : K} {z : Value}
end
end Go.Proofs.YtgjnllebnkjofaaDoor
namespace Go.Proofs.YtgjnllebnkjofaaDoor
set_option linter.all false
open Go.RowKit
set_option maxRecDepth 10000
set_option maxHeartbeats 2000000
section
variable {y0 y1 y2 y3 y4 y5 y6 y7 y8 y9 y10 y11 y12 y13 y14 y15 y16 y17 y18 y19 y20 y21 y22 y23 y24 y25 y26 y27 y28 y29 y30 y31 y32 y33 y34 y35 y36 y37 y38 y39 : TypeId} {q0 q1 q2 q3 q4 q5 q6 q7 q8 q9 q10 q11 q12 q13 q14 q15 q16 q17 q18 q19 q20 q21 q22 q23 q24 q25 q26 q27 q28 q29 q30 q31 q32 q33 q34 q35 q36 q37 q38 q39 : String} {e0 e1 e2 e3 e4 e5 e6 e7 e8 e9 e10 e11 e12 e13 e14 e15 e16 e17 e18 e19 e20 e21 e22 e23 e24 e25 e26 e27 e28 e29 e30 e31 e32 e33 e34 e35 e36 e37 e38 e39 : Array Edge} {r0 r1 r2 r3 r4 r5 : Nat}
variable {r6 r7 r8 r9 r10 r11 : Nat}
variable {E : REnv} {m mB sS k0 i I x aS iS lS vS t1 t2 t3 t4 t5 t6 t7 t8 t9 t10 t11 t12 u1 u2 u3 u4 u5 v1 v2 v3 v4 b1 b2 ug uo uc ui : Nat} {fs sub : List Fld} {pre : S → Prop} {c body cl cn : Code} {us us2 us3 : Array TypeId} {fn : FuncId} {T ty ti idx off ua uoT tyV : Nat} {a1 a2 a3 a4 a5 : Int} {of : K} {z : Value} {f : Fld} {sem : Bs → Option (D × Bs)}
end
end Go.Proofs.YtgjnllebnkjofaaDoor
namespace Go.Proofs.YtgjnllebnkjofaaDoor
set_option linter.all false
open Go.RowKit
set_option maxRecDepth 10000
set_option maxHeartbeats 2000000
def tlP (E : REnv) (fs : List Fld) : Sem := fun s bs => if E.flex then (if anyTag fs then semTagged (za6 E.flex E.ver fs 0) s bs else semTags true s bs) else some (s, bs)
theorem dfltL_len : ∀ fs : List Fld, (dfltL fs).length = fs.length
  | [] => rfl
  | f :: r => by simp [dfltL, dfltL_len r]
theorem dfltL_get : ∀ (fs : List Fld) (j : Nat) (f : Fld), fs[j]? = some f → (dfltL fs)[j]? = some (dfltF f)
  | [], _, _, h => by simp at h
  | g :: r, 0, f, h => by simp at h; subst h; simp [dfltL]
  | g :: r, j + 1, f, h => by simp only [dfltL, List.getElem?_cons_succ] at h ⊢; exact dfltL_get r j f h
theorem fresh0 (fs : List Fld) : Fresh fs 0 ⟨dfltL fs, []⟩ := fun j f _ h => dfltL_get fs j f h
theorem part_sem (E : REnv) (fs : List Fld) (bs : Bs) : zaF E.flex E.ver fs bs = semL E fs 0 (tlP E fs) ⟨dfltL fs, []⟩ bs := by
  unfold zaF partOf semL tlP
  simp only [List.drop_zero, List.take_zero, List.nil_append]
theorem Stp.part {E : REnv} {fs : List Fld} {st st' : Option Bs} {s' : S} (h : Stp (semL E fs 0 (tlP E fs)) st ⟨dfltL fs, []⟩ st' s') : st' = ((st.bind fun b => (zaF E.flex E.ver fs b).map fun x => (x.1.d, x.2)).map (·.2)) ∧ ∀ y, (st.bind fun b => (zaF E.flex E.ver fs b).map fun x => (x.1.d, x.2)) = some y → s'.d = y.1 := by
  have e : (st.bind fun b => (zaF E.flex E.ver fs b).map fun x => (x.1.d, x.2)) = (st.bind (semL E fs 0 (tlP E fs) ⟨dfltL fs, []⟩)).map fun x => (x.1.d, x.2) := by
    cases st with
    | none => rfl
    | some bs => simp only [Option.bind_some, part_sem]
  unfold Stp at h
  rw [e]
  cases hh : st.bind (semL E fs 0 (tlP E fs) ⟨dfltL fs, []⟩) with
  | none => rw [hh] at h; exact ⟨h, fun y hy => by cases hy⟩
  | some y =>
    rw [hh] at h
    obtain ⟨rfl, rfl⟩ := h
    exact ⟨rfl, fun z hz => by simp only [Option.map_some, Option.some.injEq] at hz; rw [← hz]⟩
section
variable {y0 y1 y2 y3 y4 y5 y6 y7 y8 y9 y10 y11 y12 y13 y14 y15 y16 y17 y18 y19 y20 y21 y22 y23 y24 y25 y26 y27 y28 y29 y30 y31 y32 y33 y34 y35 y36 y37 y38 y39 : TypeId} {q0 q1 q2 q3 q4 q5 q6 q7 q8 q9 q10 q11 q12 q13 q14 q15 q16 q17 q18 q19 q20 q21 q22 q23 q24 q25 q26 q27 q28 q29 q30 q31 q32 q33 q34 q35 q36 q37 q38 q39 : String} {e0 e1 e2 e3 e4 e5 e6 e7 e8 e9 e10 e11 e12 e13 e14 e15 e16 e17 e18 e19 e20 e21 e22 e23 e24 e25 e26 e27 e28 e29 e30 e31 e32 e33 e34 e35 e36 e37 e38 e39 : Array Edge} {r0 r1 r2 r3 r4 r5 : Nat}
variable {r6 r7 r8 r9 r10 r11 r12 : Nat}
variable {E : REnv} {m mB sS k0 i I x y ys aS iS lS vS t1 t2 t3 t4 t5 t6 t7 t8 t9 t10 t11 t12 t13 t14 t15 t16 t17 u1 u2 u3 u4 u5 v1 v2 v3 v4 b1 b2 ug uo uc ui : Nat} {fs sub : List Fld} {pre : S → Prop} {c body cl cn cr : Code} {us us2 us3 : Array TypeId} {fn : FuncId} {T ty ti idx off ua uoT tyV tyE sz : Nat} {a1 a2 a3 a4 a5 : Int} {of : K} {z : Value} {f : Fld} {sem : Bs → Option (D × Bs)}
end
end Go.Proofs.YtgjnllebnkjofaaDoor
namespace Go.Proofs.YtgjnllebnkjofaaDoor
set_option linter.all false
open Go.RowKit
set_option maxRecDepth 10000
set_option maxHeartbeats 2000000
section
variable {y0 y1 y2 y3 y4 y5 y6 y7 y8 y9 y10 y11 y12 y13 y14 y15 y16 y17 y18 y19 y20 y21 y22 y23 y24 y25 y26 y27 y28 y29 y30 y31 y32 y33 y34 y35 y36 y37 y38 y39 : TypeId} {q0 q1 q2 q3 q4 q5 q6 q7 q8 q9 q10 q11 q12 q13 q14 q15 q16 q17 q18 q19 q20 q21 q22 q23 q24 q25 q26 q27 q28 q29 q30 q31 q32 q33 q34 q35 q36 q37 q38 q39 : String} {e0 e1 e2 e3 e4 e5 e6 e7 e8 e9 e10 e11 e12 e13 e14 e15 e16 e17 e18 e19 e20 e21 e22 e23 e24 e25 e26 e27 e28 e29 e30 e31 e32 e33 e34 e35 e36 e37 e38 e39 : Array Edge} {r0 r1 r2 r3 r4 r5 : Nat}
variable {r6 r7 r8 r9 r10 r11 r12 r13 : Nat}
variable {E : REnv} {m mB sS k0 i I x y ys aS iS lS vS t1 t2 t3 t4 t5 t6 t7 t8 t9 t10 t11 t12 t13 t14 t15 t16 t17 w1' w2' w3' w4' w5' u1 u2 u3 u4 u5 v1 v2 v3 v4 b1 b2 ug uo uc ui : Nat} {fs sub : List Fld} {pre : S → Prop} {c c1 c2 body cl cn cr : Code} {us us2 us3 : Array TypeId} {fn : FuncId} {T ty ti idx off ua uoT tyV tyE sz : Nat} {a1 a2 a3 a4 a5 : Int} {of : K} {z : Value} {f : Fld} {sem : Bs → Option (D × Bs)} {tl semS : Sem}
end
end Go.Proofs.YtgjnllebnkjofaaDoor
