import Derived.Test.YtojpodeljpfgaabDoorZB
import Derived.Test.YtojpodeljpfgaabDoorZA
import Derived.Laws.AppendOwn
/-
What the proofs of the laws rest on, part ZC.
-/
namespace Go.Proofs.YtojpodeljpfgaabDoor
set_option linter.all false
open Go.RowKit
set_option maxRecDepth 10000
structure REnv where
  N : Nat
  ver : Int
  flex : Bool
  fl : Bool
  rr : Nat
  jk : Option Value
def RS (m t : Nat) : Prop := t < m ∧ t ≠ 6
instance (m t : Nat) : Decidable (RS m t) := inferInstanceAs (Decidable (_ ∧ _))
def ROK (E : REnv) (a : Act) : Prop := a.tmps.size = E.N ∧ a.defers = [] ∧ get a 2 = .bool false ∧ get a 8 = .int .i16 E.ver ∧ (E.fl = true → get a 9 = .bool E.flex)
def RLIM : Nat := 1073741824
def stLen (st : Option Bs) : Nat := (st.getD []).length
def Low (E : REnv) (m : Nat) : Prop := 8 < m ∧ (E.fl = true → 9 < m) ∧ RS m E.rr
theorem ROK.keep {E : REnv} {m : Nat} {a a' : Act} (h : ROK E a) (hm : Low E m) (k : zam (RS m) a a') : ROK E a' := by
  obtain ⟨h1, h2, _⟩ := hm
  refine ⟨k.size.trans h.1, k.defers.trans h.2.1, (k.slot 2 ⟨by omega, by decide⟩).trans h.2.2.1, (k.slot 8 ⟨by omega, by decide⟩).trans h.2.2.2.1, fun e => (k.slot 9 ⟨h2 e, by decide⟩).trans (h.2.2.2.2 e)⟩
structure RB (E : REnv) (a : Act) (w : World) (O : Nat → Prop) (R : Nat) (st : Option Bs) : Prop where
  ok : ROK E a
  rd : get a E.rr = .pointer (some ⟨R, 0, none⟩)
  rs : RdS w (fun g => ¬ O g) R st
  oR : O R
  oE : ¬ O gE
  err : ErrW w
  new : ∀ k, w.heap.size ≤ k → ¬ O k
  lim : stLen st ≤ RLIM
theorem ErrW.chg {X : Nat → Prop} {w w' : World} (h : ErrW w) (c : Chg X w w') (hx : ¬ X gE) : ErrW w' := by
  obtain ⟨t, x, h1, h2⟩ := h
  have hlt : gE < w.heap.size := by
    have : (w.heap[gE]?).isSome = true := by
      cases hh : w.heap[gE]? with
      | none => simp [ldOK, World.cell?, hh] at h2
      | some _ => rfl
    obtain ⟨o, ho⟩ := Option.isSome_iff_exists.1 this
    exact (Array.getElem?_eq_some_iff.1 ho).1
  have e : w'.cell? ⟨gE, 0, none⟩ = w.cell? ⟨gE, 0, none⟩ := by
    unfold World.cell?
    rw [c.block gE hlt hx]
  exact ⟨t, x, by rw [← h1]; show (w'.cell? ⟨gE, 0, none⟩).getD undef = _; rw [e]; rfl, by rw [← h2]; show (w'.cell? ⟨gE, 0, none⟩).isSome = _; rw [e]; rfl⟩
theorem RB.next {E : REnv} {m : Nat} {a a' : Act} {w w' : World} {O X : Nat → Prop} {R : Nat} {st st' : Option Bs} (h : RB E a w O R st) (hm : Low E m) (hk : zam (RS m) a a') (hc : Chg X w w') (hX : ∀ k, X k → O k)
    (hr : RdS w' (fun g => ¬ O g) R st') (hl : stLen st' ≤ stLen st) : RB E a' w' O R st' :=
  ⟨h.ok.keep hm hk, (hk.slot E.rr hm.2.2).trans h.rd, hr, h.oR, h.oE, h.err.chg hc fun hx => h.oE (hX _ hx), fun k hk' => h.new k (Nat.le_trans hc.size hk'), Nat.le_trans hl h.lim⟩
def TgX (E : REnv) (w : World) (O : Nat → Prop) (t : za0) (v2 : List Value) : Prop := match E.jk with
  | none => RepT w (fun g => ¬ O g) E.fl t v2
  | some v => v2 = [v] ∧ E.fl = true
theorem TgX.stay {E : REnv} {w w' : World} {O : Nat → Prop} {t : za0} {v2 : List Value} (h : TgX E w O t v2) (st : Stay w w' (fun g => ¬ O g) (fun g => ¬ O g)) : TgX E w' O t v2 := by
  unfold TgX at h ⊢
  cases hj : E.jk with
  | none => rw [hj] at h; exact RepT.stay st h
  | some v => rw [hj] at h; exact h
def AtE (E : REnv) (w : World) (O : Nat → Prop) (fs : List Fld) (s : S) (B o : Nat) : Prop :=
  ∃ cs T, Blk w B cs T ∧ o + ssz E.fl fs ≤ cs.length ∧ ∃ v1 v2, (cs.drop o).take (ssz E.fl fs) = v1 ++ v2 ∧ RepL w (fun g => ¬ O g) E.fl fs s.ds v1 ∧ TgX E w O s.tags v2
theorem AtE.at {E : REnv} {w : World} {O : Nat → Prop} {fs : List Fld} {s : S} {B o : Nat} (h : AtE E w O fs s B o) (hj : E.jk = none) : At w (fun g => ¬ O g) E.fl fs s B o := by
  unfold AtE TgX at h
  rw [hj] at h
  exact h
theorem AtE.of {E : REnv} {w : World} {O : Nat → Prop} {fs : List Fld} {s : S} {B o : Nat} (h : At w (fun g => ¬ O g) E.fl fs s B o) (hj : E.jk = none) : AtE E w O fs s B o := by
  unfold AtE TgX
  rw [hj]
  exact h
theorem AtE.stay {E : REnv} {w w' : World} {O : Nat → Prop} {fs : List Fld} {s : S} {B o : Nat} (h : AtE E w O fs s B o) (st : Stay w w' (fun g => ¬ O g) (fun g => ¬ O g)) (hB : w'.heap[B]? = w.heap[B]?) : AtE E w' O fs s B o := by
  obtain ⟨cs, T, h1, h2, v1, v2, h3, h4, h5⟩ := h
  exact ⟨cs, T, hB.trans h1, h2, v1, v2, h3, RepL.stay st h4, h5.stay st⟩
theorem AtE.field {E : REnv} {w : World} {O : Nat → Prop} {fs : List Fld} {s : S} {B o i : Nat} {f : Fld} (h : AtE E w O fs s B o) (hf : fs[i]? = some f) :
    ∃ d cs T, s.ds[i]? = some d ∧ Blk w B cs T ∧ o + foff E.fl fs i + fsz E.fl f ≤ cs.length ∧ RepF w (fun g => ¬ O g) E.fl f d ((cs.drop (o + foff E.fl fs i)).take (fsz E.fl f)) := by
  obtain ⟨cs, T, h1, h2, v1, v2, h3, h4, h5⟩ := h
  obtain ⟨d, k1, k2, k3⟩ := h4.get hf
  have l1 := h4.len.1
  have l3 : ((cs.drop o).take (ssz E.fl fs)).length = v1.length + v2.length := by rw [h3]; simp
  rw [List.length_take, List.length_drop] at l3
  refine ⟨d, cs, T, k1, h1, by omega, ?_⟩
  have e : (v1.drop (foff E.fl fs i)).take (fsz E.fl f) = (cs.drop (o + foff E.fl fs i)).take (fsz E.fl f) := by
    have : v1 = (cs.drop o).take v1.length := by
      have h6 := congrArg (List.take v1.length) h3
      rw [List.take_left', List.take_take, Nat.min_eq_left (by omega)] at h6
      · exact h6.symm
      · rfl
    rw [this, List.drop_take, List.drop_drop, List.take_take, Nat.min_eq_left (by omega)]
  rw [← e]; exact k2
structure RP (E : REnv) (sS k0 : Nat) (fs : List Fld) (a : Act) (w : World) (O : Nat → Prop) (R B p : Nat) (s : S) : Prop where
  pt : get a sS = .pointer (some ⟨B, p, none⟩)
  at_ : AtE E w O fs s B (p + k0)
  oB : O B
  ne : R ≠ B
theorem RB.st {E : REnv} {a : Act} {w : World} {O : Nat → Prop} {R : Nat} {st : Option Bs} (h : RB E a w O R st) (v : Option Value) : RB ⟨E.N, E.ver, E.flex, E.fl, E.rr, v⟩ a w O R st := ⟨h.ok, h.rd, h.rs, h.oR, h.oE, h.err, h.new, h.lim⟩
def Rest (w w' : World) (B lo n : Nat) : Prop := ∀ cs T, Blk w B cs T → ∃ cs', Blk w' B cs' T ∧ cs'.length = cs.length ∧ ∀ j, (j < lo ∨ lo + n ≤ j) → cs'[j]? = cs[j]?
theorem Rest.trans {w w1 w2 : World} {B lo n : Nat} (h : Rest w w1 B lo n) (k : Rest w1 w2 B lo n) : Rest w w2 B lo n := by
  intro cs T hb
  obtain ⟨cs1, h1, h2, h3⟩ := h cs T hb
  obtain ⟨cs2, k1, k2, k3⟩ := k cs1 T h1
  exact ⟨cs2, k1, k2.trans h2, fun j hj => (k3 j hj).trans (h3 j hj)⟩
theorem Rest.of {w w' : World} {B lo n : Nat} (h : w'.heap[B]? = w.heap[B]?) : Rest w w' B lo n := fun cs _ hb => ⟨cs, h.trans hb, rfl, fun _ _ => rfl⟩
theorem Rest.mono {w w' : World} {B lo n lo' n' : Nat} (h : Rest w w' B lo n) (h1 : lo' ≤ lo) (h2 : lo + n ≤ lo' + n') : Rest w w' B lo' n' := by
  intro cs T hb
  obtain ⟨cs1, k1, k2, k3⟩ := h cs T hb
  exact ⟨cs1, k1, k2, fun j hj => k3 j (by omega)⟩
def Stp (sem : Sem) (st : Option Bs) (s : S) (st' : Option Bs) (s' : S) : Prop := match st.bind (sem s) with
  | some y => st' = some y.2 ∧ s' = y.1
  | none => st' = none
def RFail (O : Nat → Prop) (w : World) (f : Prop) (a' : Act) (w' : World) : Prop := a'.defers = [] ∧ (∃ t x, get a' 6 = .iface t x) ∧ f ∧ Chg O w w'
def RdQ (E : REnv) (m k0 : Nat) (fs : List Fld) (I : Nat) (sem : Sem) (a : Act) (w : World) (O : Nat → Prop) (R B p : Nat) (st : Option Bs) (s : S) : Exit → Act → World → Prop
  | .normal, a', w' => zam (RS m) a a' ∧ Chg (fun k => k = R ∨ k = B) w w' ∧ Rest w w' B (p + k0) (ssz E.fl fs) ∧ ∃ st' s', RdS w' (fun g => ¬ O g) R st' ∧ AtE E w' O fs s' B (p + k0) ∧ Stp sem st s st' s' ∧ stLen st' ≤ stLen st ∧
      ∀ j, I ≤ j → s'.ds[j]? = s.ds[j]?
  | .ret, a', w' => RFail O w (st.bind (sem s) = none) a' w'
  | _, _, _ => False
def RdC (E : REnv) (m sS k0 : Nat) (fs : List Fld) (I : Nat) (pre : S → Prop) (sem : Sem) (c : Code) : Prop :=
  ∀ (a : Act) (w : World) (O : Nat → Prop) (R B p : Nat) (st : Option Bs) (s : S), RB E a w O R st → RP E sS k0 fs a w O R B p s → pre s → c.wp Tryd.prog (RdQ E m k0 fs I sem a w O R B p st s) a w
theorem AtE.len {E : REnv} {w : World} {O : Nat → Prop} {fs : List Fld} {s : S} {B o : Nat} (h : AtE E w O fs s B o) : s.ds.length = fs.length := by
  obtain ⟨cs, T, _, _, v1, v2, _, h4, _⟩ := h
  exact h4.len.2
section
variable {E : REnv} {m sS k0 I : Nat} {fs : List Fld} {pre : S → Prop} {sem : Sem} {c c1 c2 : Code}
theorem rd_seq {pre1 pre2 : S → Prop} {sem1 sem2 : Sem} {I1 I2 : Nat} (hm : Low E m ∧ sS < m ∧ sS ≠ 6) (h1 : RdC E m sS k0 fs I1 pre1 sem1 c1) (h2 : RdC E m sS k0 fs I2 pre2 sem2 c2) (hI1 : I1 ≤ I) (hI2 : I2 ≤ I)
    (hp1 : ∀ s, pre s → pre1 s) (hp2 : ∀ s s' : S, pre s → s.ds.length = fs.length → (∀ j, I1 ≤ j → s'.ds[j]? = s.ds[j]?) → pre2 s') (he : ∀ s bs, pre s → s.ds.length = fs.length → sem s bs = (sem1 s bs).bind fun x => sem2 x.1 x.2) :
    RdC E m sS k0 fs I pre sem (.seq c1 c2) := by
  intro a w O R B p st s hB hP hpre
  have hlen := hP.at_.len
  refine wp_seq (wp_mono (h1 a w O R B p st s hB hP (hp1 s hpre)) ?_)
  intro e a1 w1 hq
  cases e <;> try exact hq.elim
  · obtain ⟨hk, hc, hr, st1, s1, hs1, ha1, hstp, hl, hI⟩ := hq
    have hB1 := hB.next hm.1 hk hc (fun k hk => by rcases hk with rfl | rfl; exact hB.oR; exact hP.oB) hs1 hl
    have hP1 : RP E sS k0 fs a1 w1 O R B p s1 := ⟨(hk.slot _ ⟨hm.2.1, hm.2.2⟩).trans hP.pt, ha1, hP.oB, hP.ne⟩
    refine wp_mono (h2 a1 w1 O R B p st1 s1 hB1 hP1 (hp2 s s1 hpre hlen hI)) ?_
    intro e a2 w2 hq
    have hsem : st.bind (sem s) = (st.bind (sem1 s)).bind fun x => sem2 x.1 x.2 := by
      cases st with
      | none => rfl
      | some bs => exact he s bs hpre hlen
    cases e <;> try exact hq.elim
    · obtain ⟨hk2, hc2, hr2, st2, s2, hs2, ha2, hstp2, hl2, hI2'⟩ := hq
      refine ⟨hk.trans hk2, hc.trans hc2 fun _ _ h => h, hr.trans hr2, st2, s2, hs2, ha2, ?_, Nat.le_trans hl2 hl, fun j hj => (hI2' j (by omega)).trans (hI j (by omega))⟩
      unfold Stp at hstp hstp2 ⊢
      rw [hsem]
      cases h : st.bind (sem1 s) with
      | none =>
        rw [h] at hstp
        subst hstp
        exact hstp2
      | some y =>
        rw [h] at hstp
        obtain ⟨rfl, rfl⟩ := hstp
        exact hstp2
    · obtain ⟨q1, q2, q3, q4⟩ := hq
      refine ⟨q1, q2, ?_, (hc.mono fun k _ hk => by rcases hk with rfl | rfl; exact hB.oR; exact hP.oB : Chg O w w1).trans q4 fun _ _ h => h⟩
      rw [hsem]
      unfold Stp at hstp
      cases h : st.bind (sem1 s) with
      | none => rfl
      | some y =>
        rw [h] at hstp
        obtain ⟨rfl, rfl⟩ := hstp
        exact q3
  · obtain ⟨q1, q2, q3, q4⟩ := hq
    refine ⟨q1, q2, ?_, q4⟩
    cases st with
    | none => rfl
    | some bs =>
      rw [Option.bind_some] at q3 ⊢
      rw [he s bs hpre hlen, q3]; rfl
theorem rd_skip : RdC E m sS k0 fs I pre (fun s bs => some (s, bs)) .skip := by
  intro a w O R B p st s hB hP hpre
  refine wp_skip ⟨zam.refl _ _, Chg.refl _ _, Rest.of rfl, st, s, hB.rs, hP.at_, ?_, Nat.le_refl _, fun _ _ => rfl⟩
  unfold Stp
  cases st with
  | none => rfl
  | some bs => exact ⟨rfl, rfl⟩
theorem rd_mono {m' I' : Nat} {pre' : S → Prop} {sem' : Sem} (h : RdC E m' sS k0 fs I' pre' sem' c) (hm : m ≤ m') (hI : I' ≤ I) (hp : ∀ s, pre s → pre' s) (he : ∀ s bs, pre s → s.ds.length = fs.length → sem s bs = sem' s bs) : RdC E m sS k0 fs I pre sem c := by
  intro a w O R B p st s hB hP hpre
  have hlen := hP.at_.len
  refine wp_mono (h a w O R B p st s hB hP (hp s hpre)) ?_
  intro e a1 w1 hq
  have hsem : st.bind (sem s) = st.bind (sem' s) := by
    cases st with
    | none => rfl
    | some bs => exact he s bs hpre hlen
  cases e <;> try exact hq.elim
  · obtain ⟨hk, hc, hr, st1, s1, hs1, ha1, hstp, hl, hI'⟩ := hq
    exact ⟨hk.mono fun t ht => ⟨by have := ht.1; omega, ht.2⟩, hc, hr, st1, s1, hs1, ha1, by unfold Stp at hstp ⊢; rw [hsem]; exact hstp, hl, fun j hj => hI' j (by omega)⟩
  · obtain ⟨q1, q2, q3, q4⟩ := hq
    exact ⟨q1, q2, by rw [hsem]; exact q3, q4⟩
theorem rd_go {a a1 : Act} {w : World} {O : Nat → Prop} {R B p : Nat} {st : Option Bs} {s : S} (hm : Low E m ∧ sS < m ∧ sS ≠ 6) (h : RdC E m sS k0 fs I pre sem c) (hB : RB E a w O R st) (hP : RP E sS k0 fs a w O R B p s) (hpre : pre s) (hk : zam (RS m) a a1) :
    c.wp Tryd.prog (RdQ E m k0 fs I sem a w O R B p st s) a1 w := by
  refine wp_mono (h a1 w O R B p st s (hB.next hm.1 hk (Chg.refl (fun _ => False) _) (fun _ h => h.elim) hB.rs (Nat.le_refl _)) ⟨(hk.slot _ ⟨hm.2.1, hm.2.2⟩).trans hP.pt, hP.at_, hP.oB, hP.ne⟩ hpre) ?_
  intro e a2 w2 hq
  cases e <;> try exact hq
  obtain ⟨h1, h2⟩ := hq
  exact ⟨hk.trans h1, h2⟩
end
structure RvQ (E : REnv) (m : Nat) (sem : Bs → Option (D × Bs)) (f : Fld) (x : Nat) (a : Act) (w : World) (O : Nat → Prop) (R : Nat) (st : Option Bs) (a' : Act) (w' : World) : Prop where
  keep : zam (RS m) a a'
  chg : Chg (fun k => k = R) w w'
  rs : RdS w' (fun g => ¬ O g) R ((st.bind sem).map (·.2))
  len : stLen ((st.bind sem).map (·.2)) ≤ stLen st
  val : ∃ d v, get a' x = v ∧ v.cells = #[v] ∧ v.oneCell' = true ∧ RepF w' (fun g => ¬ O g) E.fl f d [v] ∧ ∀ y, st.bind sem = some y → d = y.1
def RvX (Q : Act → World → Prop) : Exit → Act → World → Prop
  | .normal, a, w => Q a w
  | _, _, _ => False
def RvC (E : REnv) (m x : Nat) (f : Fld) (sem : Bs → Option (D × Bs)) (c : Code) : Prop :=
  ∀ (a : Act) (w : World) (O : Nat → Prop) (R : Nat) (st : Option Bs), RB E a w O R st → c.wp Tryd.prog (RvX (RvQ E m sem f x a w O R st)) a w
def Less {α : Type} (sem : Bs → Option (α × Bs)) : Prop := ∀ bs x r, sem bs = some (x, r) → r.length ≤ bs.length
theorem Less.st {α : Type} {sem : Bs → Option (α × Bs)} (h : Less sem) (st : Option Bs) : stLen ((st.bind sem).map (·.2)) ≤ stLen st := by
  cases st with
  | none => exact Nat.le_refl _
  | some bs =>
    rw [Option.bind_some]
    cases hs : sem bs with
    | none => exact Nat.zero_le _
    | some y => exact h bs y.1 y.2 hs
section
variable {y0 y1 y2 y3 y4 y5 y6 y7 y8 y9 y10 y11 y12 y13 y14 y15 y16 y17 y18 y19 y20 y21 y22 y23 y24 y25 y26 y27 y28 y29 y30 y31 y32 y33 y34 y35 y36 y37 y38 y39 : TypeId} {q0 q1 q2 q3 q4 q5 q6 q7 q8 q9 q10 q11 q12 q13 q14 q15 q16 q17 q18 q19 q20 q21 q22 q23 q24 q25 q26 q27 q28 q29 q30 q31 q32 q33 q34 q35 q36 q37 q38 q39 : String} {e0 e1 e2 e3 e4 e5 e6 e7 e8 e9 e10 e11 e12 e13 e14 e15 e16 e17 e18 e19 e20 e21 e22 e23 e24 e25 e26 e27 e28 e29 e30 e31 e32 e33 e34 e35 e36 e37 e38 e39 : Array Edge} {r0 r1 r2 r3 r4 r5 : Nat}
variable {E : REnv} {m sS k0 i x t t1 t2 t3 t4 : Nat} {fs : List Fld} {pre : S → Prop} {f : Fld} {sem : Bs → Option (D × Bs)} {c : Code} {us : Array TypeId} {fn : FuncId} {T ty idx off : Nat}
def rsl (E : REnv) (m : Nat) (wr rd : List Nat) : Bool := decide (8 < m) && (!E.fl || decide (9 < m)) && (decide (E.rr < m) && decide (E.rr ≠ 6)) && wr.all (fun d => decide (m ≤ d) && decide (d < E.N)) && rd.all (fun d => decide (d < m) && decide (d ≠ 6)) && decide wr.Nodup
theorem zau {wr rd : List Nat} (h : rsl E m wr rd = true) : Low E m ∧ (∀ d ∈ wr, ¬ RS m d ∧ d < E.N ∧ m ≤ d) ∧ (∀ d ∈ rd, RS m d) ∧ wr.Nodup := by
  unfold rsl at h
  simp only [Bool.and_eq_true, decide_eq_true_eq, List.all_eq_true, Bool.or_eq_true, Bool.not_eq_true'] at h
  obtain ⟨⟨⟨⟨⟨h1, h2⟩, h6⟩, h3⟩, h4⟩, h5⟩ := h
  refine ⟨⟨h1, fun e => ?_, h6⟩, fun d hd => ⟨fun k => by have := (h3 d hd).1; have := k.1; omega, (h3 d hd).2, (h3 d hd).1⟩, fun d hd => h4 d hd, h5⟩
  rcases h2 with h | h
  · rw [e] at h; cases h
  · exact h
theorem rv_call {α : Type} {semA : Bs → Option (α × Bs)} {out : World → World → (Nat → Prop) → α → Value → Prop} (g : α → D) (hen : zaK Tryd.prog fn) (hc : RdF fn [] semA out)
    (hg : ∀ w w' (O : Nat → Prop) R y v, (∀ k, w.heap.size ≤ k → ¬ O k) → Chg (fun k => k = R) w w' → out w w' (fun k => ¬ O k) y v → v.cells = #[v] ∧ v.oneCell' = true ∧ RepF w' (fun k => ¬ O k) E.fl f (g y) [v]) (hless : Less semA)
    (hsl : rsl E m [t1, x] [E.rr] = true) : RvC E m x f (fun bs => (semA bs).map fun y => (g y.1, y.2)) (.region r0 #[⟨some t1, .call { callee := .value (.func fn), args := #[.tmp E.rr], argTypes := us }, y0, q0, e0, none⟩, ⟨some x, .assign (.tmp t1), y1, q1, e1, none⟩] false) := by
  obtain ⟨hm, hw, hr, hnd⟩ := zau hsl
  simp only [List.mem_cons, List.not_mem_nil, or_false, forall_eq_or_imp, forall_eq, List.nodup_cons, not_or, List.nodup_nil, and_true, not_false_eq_true] at hw hnd
  intro a w O R st hB
  have hN := hB.ok.1
  refine zai ?_
  refine wl_rd hen hc (by simp only [List.map_toArray, List.map_cons, List.map_nil, zac, hB.rd]) hB.rs (fun h => h hB.oR) hB.new ?_
  intro v w1 hv
  refine zak ?_
  rw [zac, zaa (by rw [hN]; exact hw.1.2.1)]
  refine zah ?_
  obtain ⟨y, k1, k2⟩ := hv.val
  obtain ⟨g1, g2, g3⟩ := hg w w1 O R y v hB.new hv.chg k1
  have hl : ∀ st : Option Bs, st.bind (fun bs => (semA bs).map fun y => (g y.1, y.2)) = (st.bind semA).map fun y => (g y.1, y.2) := fun st => by cases st <;> rfl
  have he : (st.bind (fun bs => (semA bs).map fun y => (g y.1, y.2))).map (·.2) = (st.bind semA).map (·.2) := by rw [hl, Option.map_map]; rfl
  refine ⟨((zam.refl _ _).put hw.1.1 _).put hw.2.1 _, hv.chg, by rw [he]; exact hv.rd, by rw [he]; exact hless.st st, g y, v, zaa (by rw [zae, hN]; exact hw.2.2.1), g1, g2, g3, fun z hz => ?_⟩
  rw [hl] at hz
  cases hb : st.bind semA with
  | none => rw [hb] at hz; cases hz
  | some u =>
    rw [hb] at hz
    simp only [Option.map_some, Option.some.injEq] at hz
    rw [← hz, k2 u hb]
theorem rv_safe {cu : Code} (h : RvC E m x f sem c) (hsl : rsl E m [t] [2] = true) : RvC E m x f sem (.seq (.region r0 #[⟨some t, .move (.tmp 2), y0, q0, e0, none⟩] false) (.cond (.tmp t) cu c)) := by
  obtain ⟨hm, hw, hr, hnd⟩ := zau hsl
  simp only [List.mem_cons, List.not_mem_nil, or_false, forall_eq] at hw
  intro a w O R st hB
  have hN := hB.ok.1
  refine wp_seq_k fun K hK => ?_
  refine zai ?_
  refine zal ?_
  rw [zac, hB.ok.2.2.1]
  refine zah (hK _ _ ?_)
  have hk : zam (RS m) a (a.put (some t) (.bool false)) := (zam.refl _ _).put hw.1 _
  refine wp_cond_false (by rw [zac, zaa (by rw [hN]; exact hw.2.1)]) ?_
  refine wp_mono (h _ w O R st (hB.next hm hk (Chg.refl (fun _ => False) _) (fun _ h => h.elim) hB.rs (Nat.le_refl _))) ?_
  intro e a1 w1 hq
  cases e <;> try exact hq.elim
  exact ⟨hk.trans hq.keep, hq.chg, hq.rs, hq.len, hq.val⟩
theorem rv_flex {ca cb : Code} (hfl : E.fl = true) (ha : E.flex = true → RvC E m x f sem ca) (hb : E.flex = false → RvC E m x f sem cb) (hsl : rsl E m [t] [9] = true) :
    RvC E m x f sem (.seq (.region r0 #[⟨some t, .move (.tmp 9), y0, q0, e0, none⟩] false) (.cond (.tmp t) ca cb)) := by
  obtain ⟨hm, hw, hr, hnd⟩ := zau hsl
  simp only [List.mem_cons, List.not_mem_nil, or_false, forall_eq] at hw
  intro a w O R st hB
  have hN := hB.ok.1
  refine wp_seq_k fun K hK => ?_
  refine zai ?_
  refine zal ?_
  rw [zac, hB.ok.2.2.2.2 hfl]
  refine zah (hK _ _ ?_)
  have hk : zam (RS m) a (a.put (some t) (.bool E.flex)) := (zam.refl _ _).put hw.1 _
  have hev : (a.put (some t) (.bool E.flex)).eval (.tmp t) = .bool E.flex := by rw [zac, zaa (by rw [hN]; exact hw.2.1)]
  have hB1 := hB.next hm hk (Chg.refl (fun _ => False) _) (fun _ h => h.elim) hB.rs (Nat.le_refl _)
  have fin : ∀ e a1 w1, RvX (RvQ E m sem f x (a.put (some t) (.bool E.flex)) w O R st) e a1 w1 → RvX (RvQ E m sem f x a w O R st) e a1 w1 := by
    intro e a1 w1 hq
    cases e <;> try exact hq.elim
    exact ⟨hk.trans hq.keep, hq.chg, hq.rs, hq.len, hq.val⟩
  cases hx : E.flex with
  | true =>
    rw [hx] at hev
    rw [hx] at fin hB1
    exact wp_cond_true hev (wp_mono (ha hx _ w O R st hB1) fin)
  | false =>
    rw [hx] at hev
    rw [hx] at fin hB1
    exact wp_cond_false hev (wp_mono (hb hx _ w O R st hB1) fin)
theorem rv_pre {z : Value} (h : RvC E m x f sem c) (hsl : rsl E m [t] [] = true) : RvC E m x f sem (.seq (.region r0 #[⟨some t, .assign (.const z), y0, q0, e0, none⟩] false) c) := by
  obtain ⟨hm, hw, hr, hnd⟩ := zau hsl
  simp only [List.mem_cons, List.not_mem_nil, or_false, forall_eq] at hw
  intro a w O R st hB
  refine wp_seq_k fun K hK => ?_
  refine zai ?_
  refine zak ?_
  refine zah (hK _ _ ?_)
  have hk : zam (RS m) a (a.put (some t) (a.eval (.const z))) := (zam.refl _ _).put hw.1 _
  refine wp_mono (h _ w O R st (hB.next hm hk (Chg.refl (fun _ => False) _) (fun _ h => h.elim) hB.rs (Nat.le_refl _))) ?_
  intro e a1 w1 hq
  cases e <;> try exact hq.elim
  exact ⟨hk.trans hq.keep, hq.chg, hq.rs, hq.len, hq.val⟩
theorem rv_again {y : Nat} (h : RvC E m x f sem c) (hsl : rsl E m [t, y] [] = true) :
    RvC E m y f sem (.seq c (.region r0 #[⟨some t, .move (.tmp x), y0, q0, e0, none⟩, ⟨some y, .assign (.tmp t), y1, q1, e1, none⟩] false)) := by
  obtain ⟨hm, hw, hr, hnd⟩ := zau hsl
  simp only [List.mem_cons, List.not_mem_nil, or_false, forall_eq_or_imp, forall_eq, List.nodup_cons, not_or, List.nodup_nil, and_true, not_false_eq_true] at hw hnd
  intro a w O R st hB
  refine wp_seq (wp_mono (h a w O R st hB) ?_)
  intro e a1 w1 hq
  cases e <;> try exact hq.elim
  obtain ⟨q1, q2, q3, q4, d, v, q5, q6⟩ := hq
  have hN : a1.tmps.size = E.N := q1.size.trans hB.ok.1
  refine zai ?_
  refine zal ?_
  refine zak ?_
  rw [zac, zac, zaa (by rw [hN]; exact hw.1.2.1), q5]
  refine zah ⟨(q1.put hw.1.1 _).put hw.2.1 _, q2, q3, q4, d, v, zaa (by rw [zae, hN]; exact hw.2.2.1), q6⟩
theorem splice_mid {l vs : List Value} {i k : Nat} (h : i + vs.length ≤ l.length) (hk : k < vs.length) : (zas l i vs)[i + k]? = vs[k]? := by
  unfold zas
  have e : (l.take i).length = i := by rw [List.length_take]; omega
  rw [List.append_assoc, List.getElem?_append_right (by omega), e, Nat.add_sub_cancel_left, List.getElem?_append_left hk]
theorem seg_splice {l vs : List Value} {o i n : Nat} (h : i + vs.length ≤ n) (hn : o + n ≤ l.length) : ((zas l (o + i) vs).drop o).take n = zas ((l.drop o).take n) i vs := by
  have hl : ((l.drop o).take n).length = n := by rw [List.length_take, List.length_drop]; omega
  have h1 : o + i + vs.length ≤ l.length := by omega
  have h2 : i + vs.length ≤ ((l.drop o).take n).length := by omega
  apply List.ext_getElem?
  intro j
  by_cases hj : j < n
  · rw [seg_get hj]
    by_cases c1 : j < i
    · rw [zaO h1 (by omega), zaO h2 c1, seg_get hj]
    · by_cases c2 : j < i + vs.length
      · obtain ⟨k, rfl⟩ : ∃ k, j = i + k := ⟨j - i, by omega⟩
        rw [splice_mid h2 (by omega), ← Nat.add_assoc, splice_mid h1 (by omega)]
      · rw [zaV h1 (by omega), zaV h2 (by omega), seg_get hj]
  · rw [List.getElem?_eq_none (by rw [List.length_take]; omega), List.getElem?_eq_none (by rw [zaG h2, hl]; omega)]
theorem at_set {w w' : World} {O : Nat → Prop} {s : S} {B o i : Nat} {f : Fld} {d : D} {vs cs : List Value} {T : TypeId} {X : Nat → Prop} (h : AtE E w O fs s B o) (hf : fs[i]? = some f) (hr : RepF w' (fun g => ¬ O g) E.fl f d vs) (hl : vs.length = fsz E.fl f)
    (hb : Blk w B cs T) (hb' : Blk w' B (zas cs (o + foff E.fl fs i) vs) T) (hc : Chg X w w') (hX : ∀ k, ¬ O k → k < w.heap.size → ¬ X k) : AtE E w' O fs { s with ds := s.ds.set i d } B o := by
  obtain ⟨cs0, T0, h1, h2, v1, v2, h3, h4, h5⟩ := h
  obtain ⟨rfl, rfl⟩ := h1.inj hb
  have st : Stay w w' (fun g => ¬ O g) (fun g => ¬ O g) := Stay.of hc hX
  have l1 := h4.len.1
  have hoff : foff E.fl fs i + fsz E.fl f ≤ lsz E.fl fs := by
    obtain ⟨_, _, _, h6⟩ := h4.get hf
    omega
  have hsz : lsz E.fl fs ≤ ssz E.fl fs := by unfold ssz; omega
  have hlen : o + foff E.fl fs i + vs.length ≤ cs0.length := by omega
  refine ⟨_, _, hb', by rw [zaG hlen]; exact h2, zas v1 (foff E.fl fs i) vs, v2, ?_, (RepL.stay st h4).set hf hr hl, h5.stay st⟩
  have hv1 : zas v1 (foff E.fl fs i) vs ++ v2 = zas (v1 ++ v2) (foff E.fl fs i) vs := by
    unfold zas
    rw [List.take_append_of_le_length (by omega), List.drop_append_of_le_length (by omega)]
    simp only [List.append_assoc]
  rw [hv1, ← h3]
  exact seg_splice (by omega) h2
end
end Go.Proofs.YtojpodeljpfgaabDoor
namespace Go.Proofs.YtojpodeljpfgaabDoor
set_option linter.all false
open Go.RowKit
set_option maxRecDepth 10000
section
variable {y0 y1 y2 y3 y4 y5 y6 y7 y8 y9 y10 y11 y12 y13 y14 y15 y16 y17 y18 y19 y20 y21 y22 y23 y24 y25 y26 y27 y28 y29 y30 y31 y32 y33 y34 y35 y36 y37 y38 y39 : TypeId} {q0 q1 q2 q3 q4 q5 q6 q7 q8 q9 q10 q11 q12 q13 q14 q15 q16 q17 q18 q19 q20 q21 q22 q23 q24 q25 q26 q27 q28 q29 q30 q31 q32 q33 q34 q35 q36 q37 q38 q39 : String} {e0 e1 e2 e3 e4 e5 e6 e7 e8 e9 e10 e11 e12 e13 e14 e15 e16 e17 e18 e19 e20 e21 e22 e23 e24 e25 e26 e27 e28 e29 e30 e31 e32 e33 e34 e35 e36 e37 e38 e39 : Array Edge} {r0 r1 r2 r3 r4 r5 : Nat}
variable {E : REnv} {m sS k0 i I x y t t1 t2 t3 t4 t5 : Nat} {fs : List Fld} {pre : S → Prop} {f : Fld} {sem : Bs → Option (D × Bs)} {semS : Sem} {c c1 c2 : Code} {us : Array TypeId} {fn : FuncId} {T ty idx off n : Nat}
theorem stp_set {st : Option Bs} {s : S} {d : D} (h : ∀ y, st.bind sem = some y → d = y.1) : Stp (semSet i sem) st s ((st.bind sem).map (·.2)) { s with ds := s.ds.set i d } := by
  unfold Stp
  have e : st.bind (semSet i sem s) = (st.bind sem).map fun x => ({ s with ds := s.ds.set i x.1 }, x.2) := by cases st <;> rfl
  rw [e]
  cases hb : st.bind sem with
  | none => rfl
  | some y => exact ⟨rfl, by rw [h y hb]⟩
theorem set_field {w w1 w2 : World} {O : Nat → Prop} {R B p : Nat} {a a2 : Act} {st : Option Bs} {s : S} {d : D} {cs vs : List Value} {Tb : TypeId} (hP : RP E sS k0 fs a w O R B p s) (hB : RB E a w O R st) (hf : fs[i]? = some f)
    (hk : zam (RS m) a a2) (hc : Chg (fun k => k = R) w w1) (hrs : RdS w1 (fun g => ¬ O g) R ((st.bind sem).map (·.2))) (hl : stLen ((st.bind sem).map (·.2)) ≤ stLen st) (hv : RepF w1 (fun g => ¬ O g) E.fl f d vs) (hvs : vs.length = fsz E.fl f) (hd : ∀ y, st.bind sem = some y → d = y.1)
    (hb : Blk w B cs Tb) (hb2 : Blk w2 B (zas cs (p + k0 + foff E.fl fs i) vs) Tb) (hc2 : Chg (fun k => k = B) w1 w2) : RdQ E m k0 fs (i + 1) (semSet i sem) a w O R B p st s .normal a2 w2 := by
  have hXB : ∀ k, ¬ O k → k < w1.heap.size → ¬ k = B := fun k hk _ e => hk (e ▸ hP.oB)
  have st1 : Stay w1 w2 (fun g => ¬ O g) (fun g => ¬ O g) := Stay.of hc2 hXB
  have hall : Chg (fun k => k = R ∨ k = B) w w2 := (hc.mono fun _ _ h => Or.inl h).trans (hc2.mono fun _ _ h => Or.inr h) fun _ _ h => h
  have hfo : foff E.fl fs i + fsz E.fl f ≤ lsz E.fl fs := by
    obtain ⟨cs0, T0, g1, g2, v1, v2, g3, g4, g5⟩ := hP.at_
    obtain ⟨_, _, _, h6⟩ := g4.get hf
    have := g4.len.1
    omega
  have hsz : lsz E.fl fs ≤ ssz E.fl fs := by unfold ssz; omega
  refine ⟨hk, hall, ?_, _, _, hrs.stay st1 (hc2.block R hrs.lt hP.ne), at_set hP.at_ hf (hv.stay st1) hvs hb hb2 hall fun k hk _ e => hk (by rcases e with rfl | rfl; exact hB.oR; exact hP.oB), stp_set hd, hl, fun j hj => ?_⟩
  · intro cs0 T0 hb0
    obtain ⟨rfl, rfl⟩ := hb0.inj hb
    have hle : p + k0 + foff E.fl fs i + vs.length ≤ cs0.length := by
      obtain ⟨cs1, T1, g1, g2, _⟩ := hP.at_
      have := (g1.inj hb0).1
      subst this
      omega
    refine ⟨_, hb2, zaG hle, fun j hj => ?_⟩
    rcases hj with hj | hj
    · exact zaO hle (by omega)
    · exact zaV hle (by omega)
  · show (s.ds.set i d)[j]? = _
    rw [List.getElem?_set_ne (by omega)]
theorem wp_put {a a1 : Act} {w w1 : World} {O : Nat → Prop} {R B p : Nat} {st : Option Bs} {s : S} (hB : RB E a w O R st) (hP : RP E sS k0 fs a w O R B p s) (hq : RvQ E m sem f x a w O R st a1 w1) (hf : fs[i]? = some f)
    (hF : (decide (fsz E.fl f = 1) && zaR Tryd.prog T idx (k0 + foff E.fl fs i) 1 && sizeB Tryd.prog ty 1) = true) (hsl : rsl E m [t1, t2, t3, t4] [sS, E.rr] = true) (hx : [t1, t2, t3, t4].all (fun t => decide (t ≠ x)) = true) :
    (Code.region r0 #[⟨some t1, .move (.tmp sS), y0, q0, e0, none⟩, ⟨some t2, .move (.tmp x), y1, q1, e1, none⟩, ⟨some t3, .nilCheck (.tmp t1), y2, q2, e2, none⟩, ⟨some t4, .fieldAddr T (.tmp t3) idx, y3, q3, e3, none⟩, ⟨none, .store ty (.tmp t4) (.tmp t2), y4, q4, e4, none⟩] false).wp Tryd.prog (RdQ E m k0 fs (i + 1) (semSet i sem) a w O R B p st s) a1 w1 := by
  simp only [Bool.and_eq_true, decide_eq_true_eq] at hF
  obtain ⟨⟨f1, f2⟩, f3⟩ := hF
  obtain ⟨hm, hw, hr, hnd⟩ := zau hsl
  simp only [List.mem_cons, List.not_mem_nil, or_false, forall_eq_or_imp, forall_eq, List.nodup_cons, not_or, List.nodup_nil, and_true, not_false_eq_true, List.all_cons, List.all_nil, Bool.and_true, Bool.and_eq_true, decide_eq_true_eq] at hw hnd hr hx
  obtain ⟨q1, q2, q3, q4, d, v, q5, q6, q6b, q7, q8⟩ := hq
  have hN : a1.tmps.size = E.N := q1.size.trans hB.ok.1
  have hs : get a1 sS = .pointer (some ⟨B, p, none⟩) := (q1.slot _ hr.1).trans hP.pt
  obtain ⟨cs, Tb, k1, k2⟩ := hP.at_
  have hfo : foff E.fl fs i + 1 ≤ lsz E.fl fs := by
    obtain ⟨_, v1, v2, g3, g4, g5⟩ := k2
    obtain ⟨_, _, _, h6⟩ := g4.get hf
    have := g4.len.1
    omega
  have hsz : lsz E.fl fs ≤ ssz E.fl fs := by unfold ssz; omega
  have hb1 : Blk w1 B cs Tb := k1.chg q2 (fun e => hP.ne e.symm)
  have hlt : ∀ t, t ∈ [t1, t2, t3, t4] → t < E.N := fun t ht => by simp only [List.mem_cons, List.not_mem_nil, or_false] at ht; rcases ht with rfl | rfl | rfl | rfl <;> simp only [hw]
  refine zai ?_
  refine zal ?_
  rw [zac, hs]
  refine zal ?_
  rw [zac, zab hx.1, q5]
  refine zaI (p := ⟨B, p, none⟩) (by simp only [zac, zaa, zab, zad, ne_eq, zae, hN, hnd, hw, not_false_eq_true]) ?_
  refine zaE (b := B) (o := p) f2 (by simp only [zac, zaa, zab, zad, ne_eq, zae, hN, hnd, hw, not_false_eq_true]) ?_
  refine zaX (b := B) (o := p + (k0 + foff E.fl fs i)) (n := 1) (v := v) f3 (by simp only [zac, zaa, zab, zad, ne_eq, zae, hN, hnd, hw, not_false_eq_true]) (by simp only [zac, zaa, zab, zad, ne_eq, zae, hN, hnd, hw, not_false_eq_true]) hb1 (by rw [q6]; rfl) (by intro u hu; rw [q6] at hu; simp only [List.mem_singleton] at hu; subst hu; exact q6b) (by have := k2.1; omega) fun w2 hb2 hc2 => ?_
  rw [q6] at hb2
  refine zah ?_
  rw [show p + (k0 + foff E.fl fs i) = p + k0 + foff E.fl fs i by omega] at hb2
  exact set_field hP hB hf ((((q1.put hw.1.1 _).put hw.2.1.1 _).put hw.2.2.1.1 _).put hw.2.2.2.1 _) q2 q3 q4 q7 (by rw [f1]; rfl) q8 k1 hb2 hc2
theorem rf_store (h : RvC E m x f sem c) (hf : fs[i]? = some f) (hF : (decide (fsz E.fl f = 1) && zaR Tryd.prog T idx (k0 + foff E.fl fs i) 1 && sizeB Tryd.prog ty 1) = true) (hsl : rsl E m [t1, t2, t3, t4] [sS, E.rr] = true) (hx : [t1, t2, t3, t4].all (fun t => decide (t ≠ x)) = true) :
    RdC E m sS k0 fs (i + 1) pre (semSet i sem) (.seq c (.region r0 #[⟨some t1, .move (.tmp sS), y0, q0, e0, none⟩, ⟨some t2, .move (.tmp x), y1, q1, e1, none⟩, ⟨some t3, .nilCheck (.tmp t1), y2, q2, e2, none⟩, ⟨some t4, .fieldAddr T (.tmp t3) idx, y3, q3, e3, none⟩, ⟨none, .store ty (.tmp t4) (.tmp t2), y4, q4, e4, none⟩] false)) := by
  intro a w O R B p st s hB hP _
  refine wp_seq (wp_mono (h a w O R st hB) ?_)
  intro e a1 w1 hq
  cases e <;> try exact hq.elim
  exact wp_put hB hP hq hf hF hsl hx
theorem rf_store2 (h : RvC E m x f sem c) (hf : fs[i]? = some f) (hF : (decide (fsz E.fl f = 1) && zaR Tryd.prog T idx (k0 + foff E.fl fs i) 1 && sizeB Tryd.prog ty 1) = true) (hsl0 : rsl E m [t5, y] [] = true) (hsl : rsl E m [t1, t2, t3, t4] [sS, E.rr] = true) (hx : [t1, t2, t3, t4].all (fun t => decide (t ≠ y)) = true) :
    RdC E m sS k0 fs (i + 1) pre (semSet i sem) (.seq c (.seq (.region r1 #[⟨some t5, .move (.tmp x), y0, q0, e0, none⟩, ⟨some y, .assign (.tmp t5), y1, q1, e1, none⟩] false) (.region r0 #[⟨some t1, .move (.tmp sS), y2, q2, e2, none⟩, ⟨some t2, .move (.tmp y), y3, q3, e3, none⟩, ⟨some t3, .nilCheck (.tmp t1), y4, q4, e4, none⟩, ⟨some t4, .fieldAddr T (.tmp t3) idx, y5, q5, e5, none⟩, ⟨none, .store ty (.tmp t4) (.tmp t2), y6, q6, e6, none⟩] false))) := by
  obtain ⟨hm, hw, hr, hnd⟩ := zau hsl0
  simp only [List.mem_cons, List.not_mem_nil, or_false, forall_eq_or_imp, forall_eq, List.nodup_cons, not_or, List.nodup_nil, and_true, not_false_eq_true] at hw hnd
  intro a w O R B p st s hB hP _
  refine wp_seq (wp_mono (h a w O R st hB) ?_)
  intro e a1 w1 hq
  cases e <;> try exact hq.elim
  obtain ⟨q1, q2, q3, q4, d, v, q5, q6⟩ := hq
  have hN : a1.tmps.size = E.N := q1.size.trans hB.ok.1
  refine wp_seq_k fun K hK => ?_
  refine zai ?_
  refine zal ?_
  refine zak ?_
  rw [zac, zac, zaa (by rw [hN]; exact hw.1.2.1), q5]
  refine zah (hK _ _ ?_)
  exact wp_put hB hP ⟨(q1.put hw.1.1 _).put hw.2.1 _, q2, q3, q4, d, v, zaa (by rw [zae, hN]; exact hw.2.2.1), q6⟩ hf hF hsl hx
theorem rd_pre {z : Value} (h : RdC E m sS k0 fs I pre semS c) (hsl : rsl E m [t] [sS] = true) : RdC E m sS k0 fs I pre semS (.seq (.region r0 #[⟨some t, .assign (.const z), y0, q0, e0, none⟩] false) c) := by
  obtain ⟨hm, hw, hr, hnd⟩ := zau hsl
  simp only [List.mem_cons, List.not_mem_nil, or_false, forall_eq] at hw hr
  intro a w O R B p st s hB hP hp
  refine wp_seq_k fun K hK => ?_
  refine zai ?_
  refine zak ?_
  refine zah (hK _ _ ?_)
  exact rd_go ⟨hm, hr.1, hr.2⟩ h hB hP hp ((zam.refl _ _).put hw.1 _)
def semFld (E : REnv) (f : Fld) (i : Nat) : Sem := if decide (f.tag < 0) && f.has E.ver then semSet i (decF E.flex E.ver f) else fun s bs => some (s, bs)
def semL (E : REnv) (fs : List Fld) (i : Nat) (tl : Sem) : Sem := fun s bs => (decL E.flex E.ver (fs.drop i) bs).bind fun x => tl ⟨s.ds.take i ++ x.1, s.tags⟩ x.2
def Fresh (fs : List Fld) (i : Nat) (s : S) : Prop := ∀ j f, i ≤ j → fs[j]? = some f → s.ds[j]? = some (dfltF f)
theorem Fresh.up {i j : Nat} {s : S} (h : Fresh fs i s) (hij : i ≤ j) : Fresh fs j s := fun k f hk hf => h k f (by omega) hf
theorem Fresh.on {i j : Nat} {s s' : S} (h : Fresh fs i s) (hij : i ≤ j) (hs : ∀ k, j ≤ k → s'.ds[k]? = s.ds[k]?) : Fresh fs j s' := fun k f hk hf => (hs k hk).trans (h k f (by omega) hf)
theorem semL_step {tl : Sem} {s : S} {bs : Bs} (hf : fs[i]? = some f) (hr : Fresh fs i s) (hl : s.ds.length = fs.length) : semL E fs i tl s bs = (semFld E f i s bs).bind fun x => semL E fs (i + 1) tl x.1 x.2 := by
  obtain ⟨hi, he⟩ := List.getElem?_eq_some_iff.1 hf
  have hd := hr i f (Nat.le_refl _) hf
  unfold semL semFld
  rw [List.drop_eq_getElem_cons hi, he, decL]
  have hlt : i < s.ds.length := by omega
  split
  · unfold semSet
    cases h : decF E.flex E.ver f bs with
    | none => rfl
    | some x =>
      simp only [Option.bind_some, Option.map_some]
      cases h2 : decL E.flex E.ver (fs.drop (i + 1)) x.2 with
      | none => rfl
      | some y =>
        simp only [Option.map_some, Option.bind_some]
        rw [List.take_succ, List.take_set_of_le (by omega), List.getElem?_set_self hlt]
        simp only [Option.toList_some, List.append_assoc, List.singleton_append]
  · simp only [Option.bind_some]
    cases h2 : decL E.flex E.ver (fs.drop (i + 1)) bs with
    | none => rfl
    | some y =>
      simp only [Option.map_some, Option.bind_some]
      rw [List.take_succ, hd]
      simp only [Option.toList_some, List.append_assoc, List.singleton_append]
theorem semL_end {tl : Sem} {s : S} {bs : Bs} (h : fs.length ≤ i) (hl : s.ds.length = fs.length) : semL E fs i tl s bs = tl s bs := by
  unfold semL
  rw [List.drop_of_length_le h, decL, Option.bind_some, List.append_nil, List.take_of_length_le (by omega)]
theorem rd_next {tl : Sem} (hf : fs[i]? = some f) (hsl : rsl E m [] [sS] = true) (hI : decide (i + 1 ≤ I) = true) (h1 : RdC E m sS k0 fs (i + 1) (Fresh fs i) (semFld E f i) c1) (h2 : RdC E m sS k0 fs I (Fresh fs (i + 1)) (semL E fs (i + 1) tl) c2) :
    RdC E m sS k0 fs I (Fresh fs i) (semL E fs i tl) (.seq c1 c2) := by
  obtain ⟨hm, hw, hr, hnd⟩ := zau hsl
  simp only [List.mem_cons, List.not_mem_nil, or_false, forall_eq] at hr
  exact rd_seq ⟨hm, hr.1, hr.2⟩ h1 h2 (of_decide_eq_true hI) (Nat.le_refl _) (fun _ h => h) (fun s s' h _ hs => h.on (by omega) hs) fun s bs h hl => semL_step hf h hl
theorem rd_last (hf : fs[i]? = some f) (hl : decide (fs.length = i + 1) = true) (hI : decide (i + 1 ≤ I) = true) (h1 : RdC E m sS k0 fs (i + 1) (Fresh fs i) (semFld E f i) c1) : RdC E m sS k0 fs I (Fresh fs i) (semL E fs i fun s bs => some (s, bs)) c1 := by
  refine rd_mono h1 (Nat.le_refl _) (of_decide_eq_true hI) (fun _ h => h) fun s bs h hlen => ?_
  rw [semL_step hf h hlen]
  cases hh : semFld E f i s bs with
  | none => rfl
  | some x =>
    rw [Option.bind_some]
    have hx : x.1.ds.length = fs.length := by
      unfold semFld at hh
      split at hh
      · unfold semSet at hh
        cases h2 : decF E.flex E.ver f bs with
        | none => rw [h2] at hh; cases hh
        | some y => rw [h2] at hh; simp only [Option.map_some, Option.some.injEq] at hh; rw [← hh]; simpa using hlen
      · simp only [Option.some.injEq] at hh; rw [← hh]; exact hlen
    exact semL_end (by have := of_decide_eq_true hl; omega) hx
theorem rd_tagged {tl : Sem} (hf : fs[i]? = some f) (ht : decide (0 ≤ f.tag) = true) (h : RdC E m sS k0 fs I (Fresh fs (i + 1)) (semL E fs (i + 1) tl) c) : RdC E m sS k0 fs I (Fresh fs i) (semL E fs i tl) c := by
  refine rd_mono h (Nat.le_refl _) (Nat.le_refl _) (fun _ h => h.up (by omega)) fun s bs hfr hlen => ?_
  rw [semL_step hf hfr hlen]
  unfold semFld
  have := of_decide_eq_true ht
  rw [if_neg (by simp; omega)]
  rfl
theorem rd_end {tl : Sem} (hl : decide (fs.length ≤ i) = true) (h : RdC E m sS k0 fs I (fun _ => True) tl c) : RdC E m sS k0 fs I (Fresh fs i) (semL E fs i tl) c :=
  rd_mono h (Nat.le_refl _) (Nat.le_refl _) (fun _ _ => trivial) fun s bs _ hlen => semL_end (of_decide_eq_true hl) hlen
theorem sf_all (hf : (decide (f.tag < 0) && decide (f.from_ ≤ 0) && decide (f.to < 0)) = true) (hv : 0 ≤ E.ver) (h : RdC E m sS k0 fs I pre (semSet i (decF E.flex E.ver f)) c) : RdC E m sS k0 fs I pre (semFld E f i) c := by
  simp only [Bool.and_eq_true, decide_eq_true_eq] at hf
  have e : (decide (f.tag < 0) && f.has E.ver) = true := by
    unfold Fld.has
    simp only [Bool.and_eq_true, Bool.or_eq_true, decide_eq_true_eq]
    omega
  unfold semFld
  rw [if_pos e]; exact h
theorem sf_cond {b : Bool} (he : (decide (f.tag < 0) && f.has E.ver) = b) (hsl : rsl E m [] [sS] = true) (h : b = true → RdC E m sS k0 fs I pre (semSet i (decF E.flex E.ver f)) c) {a a1 : Act} {w : World} {O : Nat → Prop} {R B p : Nat} {st : Option Bs} {s : S}
    (hB : RB E a w O R st) (hP : RP E sS k0 fs a w O R B p s) (hp : pre s) (hk : zam (RS m) a a1) (hev : a1.eval (.tmp t) = .bool b) : (Code.cond (.tmp t) c .skip).wp Tryd.prog (RdQ E m k0 fs I (semFld E f i) a w O R B p st s) a1 w := by
  obtain ⟨hm, hw, hr, hnd⟩ := zau hsl
  simp only [List.mem_cons, List.not_mem_nil, or_false, forall_eq] at hr
  unfold semFld
  rw [he]
  cases b with
  | true => exact wp_cond_true hev (rd_go ⟨hm, hr.1, hr.2⟩ (h rfl) hB hP hp hk)
  | false => exact wp_cond_false hev (rd_go ⟨hm, hr.1, hr.2⟩ rd_skip hB hP hp hk)
theorem sf_from {u : Nat} {n : Int} (hf : (decide (f.tag < 0) && decide (f.from_ = n) && decide (f.to < 0)) = true) (hsl : rsl E m [t1, t2] [8, sS] = true) (h : n ≤ E.ver → RdC E m sS k0 fs I pre (semSet i (decF E.flex E.ver f)) c) :
    RdC E m sS k0 fs I pre (semFld E f i) (.seq (.region r0 #[⟨some t1, .move (.tmp 8), y0, q0, e0, none⟩, ⟨some t2, .binOp .geq u (.tmp t1) (.const (.int .i16 n)) u, y1, q1, e1, none⟩] false) (.cond (.tmp t2) c .skip)) := by
  simp only [Bool.and_eq_true, decide_eq_true_eq] at hf
  have e : (decide (f.tag < 0) && f.has E.ver) = decide (n ≤ E.ver) := by
    unfold Fld.has
    rw [Bool.eq_iff_iff]
    simp only [Bool.and_eq_true, Bool.or_eq_true, decide_eq_true_eq]
    omega
  have hsl' : rsl E m [] [sS] = true := by
    unfold rsl at hsl ⊢
    simp only [Bool.and_eq_true, List.all_cons, List.all_nil] at hsl ⊢
    exact ⟨⟨⟨hsl.1.1.1, trivial⟩, ⟨hsl.1.2.2.1, trivial⟩⟩, rfl⟩
  obtain ⟨hm, hw, hr, hnd⟩ := zau hsl
  simp only [List.mem_cons, List.not_mem_nil, or_false, forall_eq_or_imp, forall_eq, List.nodup_cons, not_or, List.nodup_nil, and_true, not_false_eq_true] at hw hnd
  intro a w O R B p st s hB hP hp
  have hN := hB.ok.1
  refine wp_seq_k fun K hK => ?_
  refine zai ?_
  refine zal ?_
  rw [zac, hB.ok.2.2.2.1]
  have hx1 : (a.put (some t1) (.int .i16 E.ver)).eval (.tmp t1) = .int .i16 E.ver := by rw [zac, zaa (by rw [hN]; exact hw.1.2.1)]
  refine wl_geq (by rw [hx1]; rfl) ?_
  rw [hx1]
  simp only [zaf, cmp2]
  refine zah (hK _ _ ?_)
  exact sf_cond e hsl' (fun hb => h (of_decide_eq_true hb)) hB hP hp (((zam.refl _ _).put hw.1.1 _).put hw.2.1 _) (by rw [zac, zaa (by rw [zae, hN]; exact hw.2.2.1)])
theorem sf_range {u : Nat} {n n2 : Int} {t6 : Nat} (hf : (decide (f.tag < 0) && decide (f.from_ = n) && decide (f.to = n2) && decide (0 ≤ n2)) = true) (hsl : rsl E m [t1, t2, t3, t4, t5, t6] [8, sS] = true) (h : n ≤ E.ver → E.ver ≤ n2 → RdC E m sS k0 fs I pre (semSet i (decF E.flex E.ver f)) c) :
    RdC E m sS k0 fs I pre (semFld E f i) (.seq (.region r0 #[⟨some t1, .move (.tmp 8), y0, q0, e0, none⟩, ⟨some t2, .binOp .geq u (.tmp t1) (.const (.int .i16 n)) u, y1, q1, e1, none⟩, ⟨some t3, .move (.tmp t2), y2, q2, e2, none⟩, ⟨some t4, .move (.tmp 8), y10, q10, e10, some (2, true)⟩, ⟨some t5, .binOp .leq u (.tmp t4) (.const (.int .i16 n2)) u, y11, q11, e11, some (2, true)⟩, ⟨some t6, .pick (.tmp t3) (.tmp t5) (.const (.bool false)), y3, q3, e3, none⟩] false) (.cond (.tmp t6) c .skip)) := by
  simp only [Bool.and_eq_true, decide_eq_true_eq] at hf
  have e : (decide (f.tag < 0) && f.has E.ver) = (decide (n ≤ E.ver) && decide (E.ver ≤ n2)) := by
    unfold Fld.has
    rw [Bool.eq_iff_iff]
    simp only [Bool.and_eq_true, Bool.or_eq_true, decide_eq_true_eq]
    omega
  have hsl' : rsl E m [] [sS] = true := by
    unfold rsl at hsl ⊢
    simp only [Bool.and_eq_true, List.all_cons, List.all_nil] at hsl ⊢
    exact ⟨⟨⟨hsl.1.1.1, trivial⟩, ⟨hsl.1.2.2.1, trivial⟩⟩, rfl⟩
  obtain ⟨hm, hw, hr, hnd⟩ := zau hsl
  simp only [List.mem_cons, List.not_mem_nil, or_false, forall_eq_or_imp, forall_eq, List.nodup_cons, not_or, List.nodup_nil, and_true, not_false_eq_true] at hw hnd hr
  have sym : ∀ {a b : Nat}, ¬ a = b → ¬ b = a := fun h e => h e.symm
  obtain ⟨⟨n12, n13, n14, n15, n16⟩, ⟨n23, n24, n25, n26⟩, ⟨n34, n35, n36⟩, ⟨n45, n46⟩, n56⟩ := id hnd
  have hnr := And.intro (sym n12) (And.intro (sym n13) (And.intro (sym n14) (And.intro (sym n15) (And.intro (sym n16) (And.intro (sym n23) (And.intro (sym n24) (And.intro (sym n25) (And.intro (sym n26) (And.intro (sym n34) (And.intro (sym n35) (And.intro (sym n36) (And.intro (sym n45) (And.intro (sym n46) (sym n56))))))))))))))
  intro a w O R B p st s hB hP hp
  have hN := hB.ok.1
  have g8 := hB.ok.2.2.2.1
  have hE8 : ∀ t, m ≤ t → t ≠ 8 := fun t ht e => by have := hr.1.1; omega
  refine wp_seq_k fun K hK => ?_
  refine zai ?_
  refine zal ?_
  rw [zac, g8]
  have ev : ∀ (d t : Nat) (a : Act) (v : Value), d < a.tmps.size → get (a.put (some d) v) t = if d = t then v else get a t := fun d t a v h => get_put h
  refine wl_geq (by simp only [zac, zaf, ev, zae, hN, hw, hnd, hnr, if_true, if_false]; rfl) ?_
  simp only [zac, zaf, ev, zae, hN, hw, hnd, hnr, if_true, if_false, cmp2]
  refine zal ?_
  simp only [zac, zaf, ev, zae, hN, hw, hnd, hnr, if_true, if_false]
  by_cases hc : n ≤ E.ver
  · rw [decide_eq_true hc] at e ⊢
    refine wl_gyesB rfl rfl (by simp only [ev, zae, hN, hw, hnd, hnr, if_true, if_false]) ?_
    refine zal ?_
    refine wl_gyesB rfl rfl (by simp only [ev, zae, hN, hw, hnd, hnr, if_true, if_false]) ?_
    simp only [zac, zaf, ev, zae, hN, hw, hnd, hnr, if_true, if_false, hE8 t1 hw.1.2.2, hE8 t2 hw.2.1.2.2, hE8 t3 hw.2.2.1.2.2, g8]
    refine wl_leq (by simp only [zac, zaf, ev, zae, hN, hw, hnd, hnr, if_true, if_false]; rfl) ?_
    simp only [zac, zaf, ev, zae, hN, hw, hnd, hnr, if_true, if_false, cmp2]
    refine wl_pickT (by simp only [zac, ev, zae, hN, hw, hnd, hnr, if_true, if_false]) ?_
    simp only [zac, zaf, ev, zae, hN, hw, hnd, hnr, if_true, if_false]
    refine zah (hK _ _ ?_)
    rw [Bool.true_and] at e
    exact sf_cond e hsl' (fun hb => h hc (of_decide_eq_true hb)) hB hP hp ((((((((zam.refl _ _).put hw.1.1 _).put hw.2.1.1 _).put hw.2.2.1.1 _).put hw.2.2.2.1.1 _).put hw.2.2.2.2.1.1 _).put hw.2.2.2.2.2.1 _)) (by simp only [zac, ev, zae, hN, hw, hnd, hnr, if_true, if_false])
  · rw [decide_eq_false hc] at e ⊢
    refine wl_gnoB rfl rfl (by simp only [ev, zae, hN, hw, hnd, hnr, if_true, if_false]; rfl) ?_
    refine wl_gnoB rfl rfl (by simp only [ev, zae, hN, hw, hnd, hnr, if_true, if_false]; rfl) ?_
    refine wl_pickF (by simp only [zac, ev, zae, hN, hw, hnd, hnr, if_true, if_false]) ?_
    refine zah (hK _ _ ?_)
    rw [Bool.false_and] at e
    exact sf_cond e hsl' (fun hb => by cases hb) hB hP hp ((((((((zam.refl _ _).put hw.1.1 _).put hw.2.1.1 _).put hw.2.2.1.1 _).put hw.2.2.2.1.1 _).put hw.2.2.2.2.1.1 _).put hw.2.2.2.2.2.1 _)) (by simp only [zac, zaf, ev, zae, hN, hw, hnd, hnr, if_true, if_false])
end
end Go.Proofs.YtojpodeljpfgaabDoor
namespace Go.Proofs.YtojpodeljpfgaabDoor
set_option linter.all false
open Go.RowKit
set_option maxRecDepth 10000
set_option maxHeartbeats 2000000
theorem nodup_rev {l : List Nat} (h : l.Nodup) : l.reverse.Nodup := by
  unfold List.Nodup at *
  rw [List.pairwise_reverse]
  exact h.imp fun h e => h e.symm
theorem zeroCells_len (z : Array Value) (n : Nat) : (Builtin.zeroCells z n).size = n * z.size := by simp [Builtin.zeroCells]
theorem zeroCells_seg (z : Array Value) (n k : Nat) (h : k < n) : (((Builtin.zeroCells z n).toList.drop (k * z.size)).take z.size) = z.toList := by
  have hle : (k + 1) * z.size ≤ n * z.size := Nat.mul_le_mul_right _ h
  rw [Nat.add_mul, Nat.one_mul] at hle
  apply List.ext_getElem?
  intro j
  by_cases hj : j < z.size
  · rw [seg_get hj]
    simp only [Builtin.zeroCells, Array.toList_map, Array.toList_range, List.getElem?_map, List.getElem?_range (show k * z.size + j < n * z.size by omega), Option.map_some]
    rw [show (k * z.size + j) % z.size = j by rw [Nat.mul_comm, Nat.mul_add_mod]; exact Nat.mod_eq_of_lt hj]
    simp [hj]
  · rw [List.getElem?_eq_none (by rw [List.length_take]; omega), List.getElem?_eq_none (by simpa using hj)]
theorem run_appMake {P : Program} {w : World} {t ti ty e : TypeId} {i : TypeInfo} {z : Value} {k k' : IntKind} (ht : P.underlying t = some (.slice e)) (hti : P.underlying ti = some (.int k')) (hi : P.info? e = some i) (hz : zeroB P e z) (oa : Option Addr) (c n : Nat) (h0 : 0 < n) (hc : c < n)
    (hn : n ≤ 1073741824) (hb : i.bytes ≤ 65536) (hs : 0 < i.size) :
    (Builtin.append_ #[t, ti] ty #[.slice oa 0 c, .int k n]).run P w =
      .ok (.slice (some ⟨w.heap.size, 0, none⟩) n (grownCap w n c e))
        (w.drew.alloc (.cells (Builtin.zeroCells z.cells n ++ Builtin.zeroCells z.cells (grownCap w n c e - n)) e)) := by
  have h1 : IntKind.i64.wrap (n : Int) = n := i64_sm _ (by omega)
  have h2 : ¬ ((n : Int) < 0) := by omega
  have hb2 : n * i.bytes ≤ 70368744177664 := Nat.le_trans (Nat.mul_le_mul hn hb) (by decide)
  have h3 : ¬ ((n : Int) * (i.bytes : Int) > 281474976710656) := by
    have e : (n : Int) * (i.bytes : Int) = ((n * i.bytes : Nat) : Int) := by push_cast; rfl
    rw [e]; omega
  have h4 : ¬ (n ≤ c) := by omega
  have h5 : ¬ (9223372036854775807 < (n : Int)) := by omega
  have h6 : ¬ (281474976710656 < Builtin.nextslicecap n c * i.bytes) := by
    have := growslice_fits (need := n) (old := c) (bytes := i.bytes) hc (by omega); omega
  have h7 : ¬ (n = 0 ∨ i.size = 0) := by omega
  have hf : ∀ w : World, (Builtin.firstCells i.size 0 (.slice oa 0 c)).run P w = .ok #[] w := by
    intro w
    cases oa with
    | none => simp [Builtin.firstCells]
    | some a =>
      have := run_loadCells_list (P := P) (w := w) a [] (fun j v hj => by simp at hj)
      simpa [Builtin.firstCells] using this
  simp [Builtin.append_, run_underlying ht, run_underlying hti, sizeOf, typeInfo, hi, asInt, asIntOf, h1, h2, h3, h4, h5, h6, h7, Question.forced, hf, zeroB_run hz, newRow, grownCap]
  intro h
  rcases Nat.mul_eq_zero.1 h with h | h <;> omega
def intTB (P : Program) (t : Nat) : Bool := match P.underlying t with | some (.int _) => true | _ => false
def roomB (P : Program) (t n : Nat) : Bool := match P.underlying t with | some (.slice e) => (match P.info? e with | some i => i.size == n && decide (i.bytes ≤ 65536) && decide (0 < n) | none => false) | _ => false
theorem run_room {P : Program} {w : World} {t ti ty sz : TypeId} {z : Value} {k : IntKind} (ht : roomB P t sz = true) (hti : intTB P ti = true) (hz : ∀ e, P.underlying t = some (.slice e) → zeroB P e z) (hzs : z.cells.size = sz) (oa : Option Addr) (n : Nat) (h0 : 0 < n) (hn : n ≤ 1073741824) :
    ∃ cap cs T, (Builtin.append_ #[t, ti] ty #[.slice oa 0 0, .int k n]).run P w = .ok (.slice (some ⟨w.heap.size, 0, none⟩) n cap) (w.drew.alloc (.cells cs T)) ∧ n * sz ≤ cs.size ∧ ∀ j, j < n → (cs.toList.drop (j * sz)).take sz = z.cells.toList := by
  unfold roomB at ht
  unfold intTB at hti
  split at ht
  · rename_i e he
    split at ht
    · rename_i i hi
      simp only [Bool.and_eq_true, beq_iff_eq, decide_eq_true_eq] at ht
      obtain ⟨⟨h1, h2⟩, h3⟩ := ht
      split at hti
      · rename_i k' hk'
        have hr := run_appMake (w := w) (ty := ty) (k := k) he hk' hi (hz e he) oa 0 n h0 h0 hn h2 (by omega)
        have hr' : (Builtin.append_ #[t, ti] ty #[.slice oa 0 0, .int k n]).run P w = _ := hr
        refine ⟨_, _, _, hr', ?_, fun j hj => ?_⟩
        · rw [Array.size_append, zeroCells_len, hzs]; omega
        · have hle : (j + 1) * sz ≤ n * sz := Nat.mul_le_mul_right _ hj
          rw [Nat.add_mul, Nat.one_mul] at hle
          have hl : (Builtin.zeroCells z.cells n).toList.length = n * sz := by rw [Array.length_toList, zeroCells_len, hzs]
          rw [Array.toList_append, List.drop_append_of_le_length (by rw [hl]; omega), List.take_append_of_le_length (by rw [List.length_drop, hl]; omega)]
          have := zeroCells_seg z.cells n j hj
          rwa [hzs] at this
      · cases hti
    · cases ht
  · cases ht
theorem wl_room {ops : Array Oper} {Q : Exit → Act → World → Prop} {a : Act} {w : World} {rest : List Oper} {d : Option Nat} {ty : TypeId} {pos : String} {af : Array Edge} {t ti sz : TypeId} {z : Value} {k : IntKind} {x y : Operand} {oa : Option Addr} {n : Nat}
    (ht : roomB Tryd.prog t sz = true) (hti : intTB Tryd.prog ti = true) (hz : ∀ e, (Tryd.prog).underlying t = some (.slice e) → zeroB Tryd.prog e z) (hzs : z.cells.size = sz) (hx : a.eval x = .slice oa 0 0) (hy : a.eval y = .int k n) (h0 : 0 < n) (hn : n ≤ 1073741824)
    (h : ∀ w' cap cs T, Chg (fun _ => False) w w' → Blk w' w.heap.size cs T → n * sz ≤ cs.length → (∀ j, j < n → (cs.drop (j * sz)).take sz = z.cells.toList) → w'.heap.size = w.heap.size + 1 → WL Tryd.prog ops Q rest (a.put d (.slice (some ⟨w.heap.size, 0, none⟩) n cap)) w') :
    WL Tryd.prog ops Q (⟨d, .call { callee := .builtin .append, args := #[x, y], argTypes := #[t, ti] }, ty, pos, af, none⟩ :: rest) a w := by
  obtain ⟨cap, cs, T, hr, h1, h2⟩ := run_room (w := w) (ty := ty) (k := k) ht hti hz hzs oa n h0 hn
  refine zaA rfl (v := .slice (some ⟨w.heap.size, 0, none⟩) n cap) (w' := w.drew.alloc (.cells cs T)) (by simp [execOp, resolve, invoke, builtin, hx, hy, hr]) ?_
  have hc : Chg (fun _ => False) w (w.drew.alloc (.cells cs T)) := (Chg.drew _ _).trans (Chg.alloc (fun _ => False) _ _) fun _ _ h => h
  exact h _ cap cs.toList T hc (Blk.newA w.drew cs T) (by simpa using h1) h2 (by show (w.drew.heap.push _).size = _; rw [Array.size_push]; rfl)
theorem rMany_snoc {α : Type} (one : Bs → Option (α × Bs)) : ∀ (j : Nat) (bs : Bs), zaN one (j + 1) bs = (zaN one j bs).bind fun y => (one y.2).map fun x => (y.1 ++ [x.1], x.2)
  | 0, bs => by
    simp only [zaN, Option.bind_some, List.nil_append]
    cases one bs with
    | none => rfl
    | some x => rfl
  | j + 1, bs => by
    rw [zaN]
    conv => rhs; rw [zaN]
    cases h : one bs with
    | none => rfl
    | some x =>
      simp only [Option.bind_some]
      rw [rMany_snoc one j x.2]
      cases h2 : zaN one j x.2 with
      | none => rfl
      | some y =>
        simp only [Option.bind_some, Option.map_some]
        cases h3 : one y.2 with
        | none => rfl
        | some z => rfl
theorem rMany_none {α : Type} (one : Bs → Option (α × Bs)) (bs : Bs) {j : Nat} (h : zaN one j bs = none) : ∀ n, j ≤ n → zaN one n bs = none := by
  intro n hn
  obtain ⟨k, rfl⟩ : ∃ k, n = j + k := ⟨n - j, by omega⟩
  induction k with
  | zero => exact h
  | succ k ih => rw [← Nat.add_assoc, rMany_snoc, ih (by omega)]; rfl
theorem seg_same {cs cs' : List Value} {sz j k : Nat} (h : ∀ i, (i < j * sz ∨ j * sz + sz ≤ i) → cs'[i]? = cs[i]?) (hk : k ≠ j) : (cs'.drop (k * sz)).take sz = (cs.drop (k * sz)).take sz := by
  apply List.ext_getElem?
  intro i
  by_cases hi : i < sz
  · rw [seg_get hi, seg_get hi]
    apply h
    rcases Nat.lt_or_gt_of_ne hk with hlt | hlt
    · left
      have : (k + 1) * sz ≤ j * sz := Nat.mul_le_mul_right _ hlt
      rw [Nat.add_mul, Nat.one_mul] at this
      omega
    · right
      have : (j + 1) * sz ≤ k * sz := Nat.mul_le_mul_right _ hlt
      rw [Nat.add_mul, Nat.one_mul] at this
      omega
  · rw [List.getElem?_eq_none (by rw [List.length_take]; omega), List.getElem?_eq_none (by rw [List.length_take]; omega)]
abbrev Rep := World → (Nat → Prop) → D → List Value → Prop
def RepStay (rep : Rep) : Prop := ∀ (w w' : World) (G G' : Nat → Prop) (d : D) (vs : List Value), Stay w w' G G' → rep w G d vs → rep w' G' d vs
def ElC (E : REnv) (m aS iS sz : Nat) (one : Bs → Option (D × Bs)) (rep : Rep) (zc : List Value) (c : Code) : Prop :=
  ∀ (a : Act) (w : World) (O : Nat → Prop) (R b j n cap : Nat) (st : Option Bs) (cs : List Value) (T : TypeId), RB E a w O R st → O b → R ≠ b → get a aS = .slice (some ⟨b, 0, none⟩) n cap → get a iS = .int .i32 j → j < n → Blk w b cs T →
    n * sz ≤ cs.length → (cs.drop (j * sz)).take sz = zc → c.wp Tryd.prog (fun e a' w' => match e with
      | .normal => zam (RS m) a a' ∧ Chg (fun k => k = R ∨ k = b) w w' ∧ RdS w' (fun g => ¬ O g) R ((st.bind one).map (·.2)) ∧ stLen ((st.bind one).map (·.2)) ≤ stLen st ∧
          ∃ cs' x, Blk w' b cs' T ∧ cs'.length = cs.length ∧ (∀ k, (k < j * sz ∨ j * sz + sz ≤ k) → cs'[k]? = cs[k]?) ∧ rep w' (fun g => ¬ O g) x ((cs'.drop (j * sz)).take sz) ∧ ∀ y, st.bind one = some y → x = y.1
      | .ret => RFail O w (st.bind one = none) a' w'
      | _ => False) a w
section
variable {y0 y1 y2 y3 y4 y5 y6 y7 y8 y9 y10 y11 y12 y13 y14 y15 y16 y17 y18 y19 y20 y21 y22 y23 y24 y25 y26 y27 y28 y29 y30 y31 y32 y33 y34 y35 y36 y37 y38 y39 : TypeId} {q0 q1 q2 q3 q4 q5 q6 q7 q8 q9 q10 q11 q12 q13 q14 q15 q16 q17 q18 q19 q20 q21 q22 q23 q24 q25 q26 q27 q28 q29 q30 q31 q32 q33 q34 q35 q36 q37 q38 q39 : String} {e0 e1 e2 e3 e4 e5 e6 e7 e8 e9 e10 e11 e12 e13 e14 e15 e16 e17 e18 e19 e20 e21 e22 e23 e24 e25 e26 e27 e28 e29 e30 e31 e32 e33 e34 e35 e36 e37 e38 e39 : Array Edge} {r0 r1 r2 r3 r4 r5 : Nat}
variable {E : REnv} {m sS k0 i I x aS iS lS t t1 t2 t3 t4 t5 t6 t7 sz b1 b2 u : Nat} {one : Bs → Option (D × Bs)} {rep : Rep} {zc : List Value} {c body : Code}
structure LInv (E : REnv) (m sz : Nat) (one : Bs → Option (D × Bs)) (rep : Rep) (zc : List Value) (n : Nat) (a0 : Act) (w0 : World) (O : Nat → Prop) (R b : Nat) (st : Option Bs) (T : TypeId) (j : Nat) (a : Act) (w : World) : Prop where
  keep : zam (RS m) a0 a
  chg : Chg (fun k => k = R ∨ k = b) w0 w
  rs : RdS w (fun g => ¬ O g) R ((st.bind (zaN one j)).map (·.2))
  len : stLen ((st.bind (zaN one j)).map (·.2)) ≤ stLen st
  val : ∃ cs xs, Blk w b cs T ∧ n * sz ≤ cs.length ∧ xs.length = j ∧ (∀ k x, xs[k]? = some x → rep w (fun g => ¬ O g) x ((cs.drop (k * sz)).take sz)) ∧ (∀ k, j ≤ k → k < n → (cs.drop (k * sz)).take sz = zc) ∧ ∀ y, st.bind (zaN one j) = some y → xs = y.1
theorem rd_loop {n cap : Nat} (hrep : RepStay rep) (hbody : ElC E m aS iS sz one rep zc body) (hsl : rsl E m [t1, t2, t3, t4, t5] [E.rr, aS, iS, lS] = true) (hsl2 : rsl E iS [iS] [aS, lS] = true)
    {a : Act} {w : World} {O : Nat → Prop} {R b : Nat} {st : Option Bs} {cs : List Value} {T : TypeId} {Q : Exit → Act → World → Prop} (hB : RB E a w O R st) (hOb : O b) (hne : R ≠ b) (ha : get a aS = .slice (some ⟨b, 0, none⟩) n cap) {L : Int} (hl : get a lS = .int .i32 L) (hL : n = L.toNat) (hn : n ≤ 1073741824) (hb : Blk w b cs T)
    (hlen : n * sz ≤ cs.length) (hz : ∀ k, k < n → (cs.drop (k * sz)).take sz = zc)
    (hQ : ∀ a' w', LInv E iS sz one rep zc n a w O R b st T n a' w' → Q .normal a' w') (hF : ∀ a' w', RFail O w (st.bind (zaN one n) = none) a' w' → Q .ret a' w') :
    (Code.seq (.region r0 #[⟨some iS, .assign (.const (.int .i32 0)), y0, q0, e0, none⟩] false) (.block b1 (.loop (.seq (.seq (.region r1 #[⟨some t1, .move (.tmp iS), y1, q1, e1, none⟩, ⟨some t2, .move (.tmp lS), y2, q2, e2, none⟩, ⟨some t3, .binOp .lss u (.tmp t1) (.tmp t2) u, y3, q3, e3, none⟩] false) (.cond (.tmp t3) .skip (.exit b1)))
      (.seq (.block b2 body) (.region r2 #[⟨some t4, .move (.tmp iS), y4, q4, e4, none⟩, ⟨some t5, .binOp .add u (.tmp t4) (.const (.int .i32 1)) u, y5, q5, e5, none⟩, ⟨some iS, .assign (.tmp t5), y6, q6, e6, none⟩] false)))))).wp Tryd.prog Q a w := by
  obtain ⟨hm, hw, hr, hnd⟩ := zau hsl
  obtain ⟨hm2, hw2, hr2, _⟩ := zau hsl2
  simp only [List.mem_cons, List.not_mem_nil, or_false, forall_eq_or_imp, forall_eq, List.nodup_cons, not_or, List.nodup_nil, and_true, not_false_eq_true] at hw hnd hr hw2 hr2
  have hnr := nodup_rev (zau hsl).2.2.2
  simp only [List.reverse_cons, List.reverse_nil, List.nil_append, List.cons_append, List.mem_cons, List.not_mem_nil, or_false, List.nodup_cons, not_or, List.nodup_nil, and_true, not_false_eq_true] at hnr
  have ev : ∀ {d t : Nat} {a : Act} {v : Value}, d < a.tmps.size → get (a.put (some d) v) t = if d = t then v else get a t := fun h => get_put h
  have hE : ∀ t, m ≤ t → ¬ t = iS ∧ ¬ t = lS ∧ ¬ t = aS ∧ ¬ t < iS := fun t ht => by have := hr.2.1.1; have := hr.2.2.1.1; have := hr.2.2.2.1; omega
  have hN := hB.ok.1
  have hiS : iS < m := hr.2.2.1.1
  have hiN : iS < E.N := hw2.2.1
  have nia : ¬ iS = aS := by have := hr2.1.1; omega
  have nil : ¬ iS = lS := by have := hr2.2.1; omega
  refine wp_seq_k fun K hK => ?_
  refine zai ?_
  refine zak ?_
  refine zah (hK _ _ ?_)
  clear hK K
  refine wp_block ?_
  refine wp_loop (fun a' w' => ∃ j : Nat, j ≤ n ∧ get a' iS = .int .i32 j ∧ LInv E iS sz one rep zc n a w O R b st T j a' w') (fun a' _ => n - (intOf (get a' iS)).toNat) ?_ ?_
  · refine ⟨0, Nat.zero_le _, by rw [zaa (by rw [hN]; exact hiN)]; rfl, (zam.refl _ _).put hw2.1 _, Chg.refl _ _, ?_, ?_, cs, [], hb, hlen, rfl, fun k x h => by simp at h, fun k _ hk => hz k hk, fun y hy => ?_⟩
    · have : (st.bind (zaN one 0)).map (·.2) = st := by cases st <;> rfl
      rw [this]; exact hB.rs
    · have : (st.bind (zaN one 0)).map (·.2) = st := by cases st <;> rfl
      rw [this]; exact Nat.le_refl _
    · cases st with
      | none => cases hy
      | some bs => simp only [zaN, Option.bind_some, Option.some.injEq] at hy; rw [← hy]
  rintro a1 w1 ⟨j, hj, gi, hk, hc, hrs, hll, cs1, xs, hb1, hlen1, hxl, hx, hz1, hy1⟩
  have hN1 : a1.tmps.size = E.N := hk.size.trans hN
  have gl : get a1 lS = .int .i32 L := (hk.slot _ hr2.2).trans hl
  have ga : get a1 aS = .slice (some ⟨b, 0, none⟩) n cap := (hk.slot _ hr2.1).trans ha
  have hB1 : RB E a1 w1 O R ((st.bind (zaN one j)).map (·.2)) := hB.next hm2 hk hc (fun k h => by rcases h with rfl | rfl; exact hB.oR; exact hOb) hrs hll
  refine wp_seq_k fun K hK => ?_
  refine wp_seq_k fun K2 hK2 => ?_
  refine zai ?_
  refine zal ?_
  rw [zac, gi]
  refine zal ?_
  rw [zac, ev (by rw [hN1]; exact hw.1.2.1), if_neg (hE t1 hw.1.2.2).2.1, gl]
  refine wl_lss (by simp only [zac, ev, zae, hN1, hw, hnd, hnr, if_true, if_false]; rfl) ?_
  simp only [zac, ev, zae, hN1, hw, hnd, hnr, if_true, if_false, cmp2]
  refine zah (hK2 _ _ ?_)
  clear hK2 K2
  have hkt : ∀ (v1 v2 v3 : Value), zam (RS m) a1 (((a1.put (some t1) v1).put (some t2) v2).put (some t3) v3) := fun v1 v2 v3 => (((zam.refl _ _).put hw.1.1 _).put hw.2.1.1 _).put hw.2.2.1.1 _
  by_cases hlt : j < n
  · have e1 : decide ((j : Int) < L) = true := decide_eq_true (by omega)
    rw [e1]
    refine wp_cond_true (by simp only [zac, ev, zae, hN1, hw, hnd, hnr, if_true, if_false]) ?_
    refine wp_skip (hK _ _ ?_)
    clear hK K
    refine wp_seq_k fun K hK => ?_
    refine wp_block ?_
    have hk2 := hkt (.int .i32 j) (.int .i32 L) (.bool true)
    have hB2 := hB1.next hm hk2 (Chg.refl (fun _ => False) _) (fun _ h => h.elim) hB1.rs (Nat.le_refl _)
    refine wp_mono (hbody _ w1 O R b j n cap _ cs1 T hB2 hOb hne ((hk2.slot _ hr.2.1).trans ga) ((hk2.slot _ hr.2.2.1).trans gi) hlt hb1 hlen1 (hz1 j (Nat.le_refl _) hlt)) ?_
    intro e a2 w2 hq
    have hsn : st.bind (zaN one (j + 1)) = (st.bind (zaN one j)).bind fun y => (one y.2).map fun x => (y.1 ++ [x.1], x.2) := by
      cases st with
      | none => rfl
      | some bs => exact rMany_snoc one j bs
    cases e <;> try exact hq.elim
    · obtain ⟨q1, q2, q3, q4, cs2, x, q5, q6, q7, q8, q9⟩ := hq
      refine hK _ _ ?_
      clear hK K
      have hN2 : a2.tmps.size = E.N := q1.size.trans (hk2.size.trans hN1)
      have gi2 : get a2 iS = .int .i32 j := (q1.slot _ hr.2.2.1).trans ((hk2.slot _ hr.2.2.1).trans gi)
      refine zai ?_
      refine zal ?_
      rw [zac, gi2]
      refine wl_add (by simp only [zac, zaf, ev, zae, hN2, hw, if_true]; rfl) ?_
      simp only [zac, zaf, ev, zae, hN2, hw, if_true, add2]
      refine zak ?_
      simp only [zac, ev, zae, hN2, hw, if_true]
      have hw32 : IntKind.i32.wrap ((j : Int) + 1) = ((j + 1 : Nat) : Int) := by rw [i32_wrap]; unfold zaC; omega
      rw [hw32]
      refine zah ?_
      have hlow : zam (RS iS) a1 a2 := (hk2.trans q1).mono fun t ht => ⟨by have := ht.1; omega, ht.2⟩
      have hnot : ∀ t, m ≤ t → ¬ RS iS t := fun t ht h => (hE t ht).2.2.2 h.1
      have est : (st.bind (zaN one (j + 1))).map (·.2) = (((st.bind (zaN one j)).map (·.2)).bind one).map (·.2) := by
        rw [hsn]
        cases st.bind (zaN one j) with
        | none => rfl
        | some y =>
          simp only [Option.bind_some, Option.map_some]
          cases one y.2 with
          | none => rfl
          | some z => rfl
      have hst : Stay w1 w2 (fun g => ¬ O g) (fun g => ¬ O g) := Stay.of q2 fun k hk' _ h => hk' (by rcases h with rfl | rfl; exact hB.oR; exact hOb)
      refine ⟨⟨j + 1, hlt, by rw [zaa (by simp only [zae, hN2]; exact hiN)], (((hk.trans hlow).put (hnot t4 hw.2.2.2.1.2.2) _).put (hnot t5 hw.2.2.2.2.2.2) _).put hw2.1 _, hc.trans q2 fun _ _ h => h, by rw [est]; exact q3, by rw [est]; exact Nat.le_trans q4 hll,
        cs2, xs ++ [x], q5, by rw [q6]; exact hlen1, by rw [List.length_append, hxl]; rfl, fun k y hy => ?_, fun k hk1 hk2' => ?_, fun y hy => ?_⟩, ?_⟩
      · by_cases hkj : k < xs.length
        · rw [List.getElem?_append_left hkj] at hy
          rw [seg_same q7 (by omega)]
          exact hrep _ _ _ _ _ _ hst (hx k y hy)
        · rw [List.getElem?_append_right (by omega)] at hy
          have hk0 : k - xs.length = 0 := by
            cases hh : k - xs.length with
            | zero => rfl
            | succ n => rw [hh] at hy; simp at hy
          rw [hk0] at hy
          simp at hy
          subst hy
          have : k = j := by omega
          subst this
          exact q8
      · rw [seg_same q7 (by omega)]
        exact hz1 k (by omega) hk2'
      · rw [hsn] at hy
        cases hh : st.bind (zaN one j) with
        | none => rw [hh] at hy; cases hy
        | some z =>
          rw [hh] at hy q9
          simp only [Option.bind_some, Option.map_some] at hy q9
          cases h1 : one z.2 with
          | none => rw [h1] at hy; cases hy
          | some v =>
            rw [h1] at hy
            simp only [Option.map_some, Option.some.injEq] at hy
            rw [← hy, hy1 z hh, q9 v h1]
      · simp only [gi, intOf]
        rw [zaa (by simp only [zae, hN2]; exact hiN)]
        simp only [intOf]
        omega
    · obtain ⟨f1, f2, f3, f4⟩ := hq
      refine hF a2 w2 ⟨f1, f2, ?_, (hc.mono fun k _ h => by rcases h with rfl | rfl; exact hB.oR; exact hOb : Chg O w w1).trans f4 fun _ _ h => h⟩
      cases hst : st with
      | none => rfl
      | some bs =>
        rw [hst] at f3 hsn
        simp only [Option.bind_some] at f3 hsn ⊢
        have hn1 : zaN one (j + 1) bs = none := by
          rw [hsn]
          cases hh : zaN one j bs with
          | none => rfl
          | some y =>
            rw [hh] at f3
            simp only [Option.map_some, Option.bind_some] at f3 ⊢
            rw [f3]; rfl
        exact rMany_none one bs hn1 n hlt
  · have e1 : decide ((j : Int) < L) = false := decide_eq_false (by omega)
    rw [e1]
    have ej : j = n := by omega
    subst ej
    refine wp_cond_false (by simp only [zac, ev, zae, hN1, hw, hnd, hnr, if_true, if_false]) ?_
    refine wp_exit ?_
    simp only [Exit.then, Exit.inBlock, if_pos]
    exact hQ _ _ ⟨hk.trans ((hkt _ _ _).mono fun t ht => ⟨by have := ht.1; omega, ht.2⟩), hc, hrs, hll, cs1, xs, hb1, hlen1, hxl, hx, fun k h1 h2 => by omega, hy1⟩
theorem rd_loop0 (hsl : rsl E m [t1, t2, t3, t4, t5] [E.rr, aS, iS, lS] = true) (hsl2 : rsl E iS [iS] [aS, lS] = true) {a : Act} {w : World} {Q : Exit → Act → World → Prop} (hN : a.tmps.size = E.N) {L : Int} (hl : get a lS = .int .i32 L) (hL : L ≤ 0)
    (hQ : ∀ a', zam (RS iS) a a' → Q .normal a' w) :
    (Code.seq (.region r0 #[⟨some iS, .assign (.const (.int .i32 0)), y0, q0, e0, none⟩] false) (.block b1 (.loop (.seq (.seq (.region r1 #[⟨some t1, .move (.tmp iS), y1, q1, e1, none⟩, ⟨some t2, .move (.tmp lS), y2, q2, e2, none⟩, ⟨some t3, .binOp .lss u (.tmp t1) (.tmp t2) u, y3, q3, e3, none⟩] false) (.cond (.tmp t3) .skip (.exit b1)))
      (.seq (.block b2 body) (.region r2 #[⟨some t4, .move (.tmp iS), y4, q4, e4, none⟩, ⟨some t5, .binOp .add u (.tmp t4) (.const (.int .i32 1)) u, y5, q5, e5, none⟩, ⟨some iS, .assign (.tmp t5), y6, q6, e6, none⟩] false)))))).wp Tryd.prog Q a w := by
  obtain ⟨hm, hw, hr, hnd⟩ := zau hsl
  obtain ⟨hm2, hw2, hr2, _⟩ := zau hsl2
  have hnr := nodup_rev (zau hsl).2.2.2
  simp only [List.reverse_cons, List.reverse_nil, List.nil_append, List.cons_append, List.mem_cons, List.not_mem_nil, or_false, List.nodup_cons, not_or, List.nodup_nil, and_true, not_false_eq_true] at hnr
  simp only [List.mem_cons, List.not_mem_nil, or_false, forall_eq_or_imp, forall_eq, List.nodup_cons, not_or, List.nodup_nil, and_true, not_false_eq_true] at hw hnd hr hw2 hr2
  have ev : ∀ {d t : Nat} {a : Act} {v : Value}, d < a.tmps.size → get (a.put (some d) v) t = if d = t then v else get a t := fun h => get_put h
  have hE : ∀ t, m ≤ t → ¬ t = iS ∧ ¬ t = lS ∧ ¬ t < iS := fun t ht => by have := hr.2.2.1.1; have := hr.2.2.2.1; omega
  have hiN : iS < E.N := hw2.2.1
  have nil : ¬ iS = lS := by have := hr2.2.1; omega
  refine wp_seq_k fun K hK => ?_
  refine zai ?_
  refine zak ?_
  refine zah (hK _ _ ?_)
  clear hK K
  refine wp_block ?_
  refine wp_loop (fun a' w' => get a' iS = .int .i32 0 ∧ get a' lS = .int .i32 L ∧ zam (RS iS) a a' ∧ w' = w) (fun _ _ => 0) ⟨zaa (by rw [hN]; exact hiN), by rw [zab nil]; exact hl, (zam.refl _ _).put hw2.1 _, rfl⟩ ?_
  rintro a1 w1 ⟨gi, gl, hk, rfl⟩
  have hN1 : a1.tmps.size = E.N := hk.size.trans hN
  refine wp_seq_k fun K hK => ?_
  refine wp_seq_k fun K2 hK2 => ?_
  refine zai ?_
  refine zal ?_
  rw [zac, gi]
  refine zal ?_
  rw [zac, ev (by rw [hN1]; exact hw.1.2.1), if_neg (hE t1 hw.1.2.2).2.1, gl]
  refine wl_lss (by simp only [zac, ev, zae, hN1, hw, hnd, hnr, if_true, if_false]; rfl) ?_
  simp only [zac, ev, zae, hN1, hw, hnd, hnr, if_true, if_false, cmp2]
  refine zah (hK2 _ _ ?_)
  have e1 : decide ((0 : Int) < L) = false := decide_eq_false (by omega)
  rw [e1]
  refine wp_cond_false (by simp only [zac, ev, zae, hN1, hw, hnd, hnr, if_true, if_false]) ?_
  refine wp_exit ?_
  simp only [Exit.then, Exit.inBlock, if_pos]
  have hnot : ∀ t, m ≤ t → ¬ RS iS t := fun t ht h => (hE t ht).2.2 h.1
  exact hQ _ (((hk.put (hnot t1 hw.1.2.2) _).put (hnot t2 hw.2.1.2.2) _).put (hnot t3 hw.2.2.1.2.2) _)
end
end Go.Proofs.YtojpodeljpfgaabDoor
namespace Go.Proofs.YtojpodeljpfgaabDoor
set_option linter.all false
open Go.RowKit
set_option maxRecDepth 10000
set_option maxHeartbeats 1000000
def oneR (E : REnv) (of : K) (sub : List Fld) (bs : Bs) : Option (D × Bs) := match of with | .struct => (decPart E.flex E.ver sub bs).map fun x => (x.1.d, x.2) | k => rK k E.flex bs
def eszR (E : REnv) (of : K) (sub : List Fld) : Nat := match of with | .struct => ssz E.fl sub | k => ksz k
def repR (E : REnv) (of : K) (sub : List Fld) : Rep := fun w G x vs => match of with | .struct => ∃ s : S, x = s.d ∧ RepS w G E.fl sub s vs | k => RepK w G k x vs
theorem repR_stay (E : REnv) (of : K) (sub : List Fld) : RepStay (repR E of sub) := by
  intro w w' G G' d vs st h
  cases of <;> dsimp only [repR] at h ⊢ <;> first | exact RepK.stay st h | (obtain ⟨s, h1, h2⟩ := h; exact ⟨s, h1, h2.stay st⟩)
theorem decF_listR (E : REnv) (a b zaQ tag df : Int) (of : K) (sub : List Fld) (bs : Bs) : decF E.flex E.ver (.mk .list a b zaQ tag df of sub) bs =
    (rLen E.flex bs).bind fun n => (zaN (oneR E of sub) n.1.toNat n.2).map fun x => (.arr (nilArr zaQ E.ver n.1) x.1, x.2) := by
  unfold decF oneR
  dsimp only
  congr 1
  funext n
  congr 2
  funext b
  cases of <;> rfl
theorem repF_listR {E : REnv} {a b zaQ tag df : Int} {of : K} {sub : List Fld} {w : World} {G : Nat → Prop} {nil : Bool} {l : List D} {oa : Option Addr} {cap : Nat} (hn : nil = oa.isNone) (hcap : oa = none → cap = 0) (hl : l.length ≤ 1073741824)
    (h : l = [] ∨ ∃ g cs T, oa = some ⟨g, 0, none⟩ ∧ G g ∧ Blk w g cs T ∧ l.length * eszR E of sub ≤ cs.length ∧ ∀ i x, l[i]? = some x → repR E of sub w G x ((cs.drop (i * eszR E of sub)).take (eszR E of sub))) :
    RepF w G E.fl (.mk .list a b zaQ tag df of sub) (.arr nil l) [.slice oa l.length cap] := by
  unfold RepF
  refine ⟨oa, cap, rfl, ⟨hn, hcap⟩, hl, ?_⟩
  rcases h with h | ⟨g, cs, T, h1, h2, h3, h4, h5⟩
  · exact .inl h
  · refine .inr ⟨g, cs, T, h1, h2, h3, ?_⟩
    cases of <;> exact ⟨h4, h5⟩
def RnC (E : REnv) (m lS : Nat) (c : Code) : Prop := ∀ (a : Act) (w : World) (O : Nat → Prop) (R : Nat) (st : Option Bs), RB E a w O R st → c.wp Tryd.prog (RvX fun a' w' => zam (RS m) a a' ∧ Chg (fun k => k = R) w w' ∧
  RdS w' (fun g => ¬ O g) R ((st.bind (rLen E.flex)).map (·.2)) ∧ stLen ((st.bind (rLen E.flex)).map (·.2)) ≤ stLen st ∧ ∃ L, get a' lS = .int .i32 L ∧ ∀ y, st.bind (rLen E.flex) = some y → L = y.1) a w
section
variable {y0 y1 y2 y3 y4 y5 y6 y7 y8 y9 y10 y11 y12 y13 y14 y15 y16 y17 y18 y19 y20 y21 y22 y23 y24 y25 y26 y27 y28 y29 y30 y31 y32 y33 y34 y35 y36 y37 y38 y39 : TypeId} {q0 q1 q2 q3 q4 q5 q6 q7 q8 q9 q10 q11 q12 q13 q14 q15 q16 q17 q18 q19 q20 q21 q22 q23 q24 q25 q26 q27 q28 q29 q30 q31 q32 q33 q34 q35 q36 q37 q38 q39 : String} {e0 e1 e2 e3 e4 e5 e6 e7 e8 e9 e10 e11 e12 e13 e14 e15 e16 e17 e18 e19 e20 e21 e22 e23 e24 e25 e26 e27 e28 e29 e30 e31 e32 e33 e34 e35 e36 e37 e38 e39 : Array Edge} {r0 r1 r2 r3 r4 r5 : Nat}
variable {E : REnv} {m sS k0 i I x aS iS lS vS t t1 t2 t3 t4 t5 t6 t7 t8 t9 tt1 tt2 tt3 b1 b2 u uo uc ui : Nat} {fs sub : List Fld} {pre : S → Prop} {c body cl : Code} {us us2 us3 : Array TypeId} {fn : FuncId} {T ty idx off : Nat} {a1 a2 a3 a4 a5 : Int} {of : K} {z : Value}
theorem rLen_le {flex : Bool} {bs r : Bs} {n : Int} (h : rLen flex bs = some (n, r)) : n ≤ r.length := by
  unfold rLen at h
  cases h1 : (if flex then (zav bs).map fun x => (zaC (zaC x.1 - 1), x.2) else rS 4 bs) with
  | none => rw [h1] at h; cases h
  | some y =>
    rw [h1, Option.bind_some] at h
    split at h
    · cases h
    · rename_i hc
      simp only [Option.some.injEq] at h
      subst h
      dsimp only at hc
      omega
theorem rn_call (hen : zaK Tryd.prog fn) (hc : RdF fn [] (rLen E.flex) (outI .i32)) (hless : Less (rLen E.flex)) (hsl : rsl E m [t1, x] [E.rr] = true) :
    RnC E m x (.region r0 #[⟨some t1, .call { callee := .value (.func fn), args := #[.tmp E.rr], argTypes := us }, y0, q0, e0, none⟩, ⟨some x, .assign (.tmp t1), y1, q1, e1, none⟩] false) := by
  obtain ⟨hm, hw, hr, hnd⟩ := zau hsl
  simp only [List.mem_cons, List.not_mem_nil, or_false, forall_eq_or_imp, forall_eq, List.nodup_cons, not_or, List.nodup_nil, and_true, not_false_eq_true] at hw hnd
  intro a w O R st hB
  have hN := hB.ok.1
  refine zai ?_
  refine wl_rd hen hc (by simp only [List.map_toArray, List.map_cons, List.map_nil, zac, hB.rd]) hB.rs (fun h => h hB.oR) hB.new ?_
  intro v w1 hv
  refine zak ?_
  rw [zac, zaa (by rw [hN]; exact hw.1.2.1)]
  refine zah ?_
  obtain ⟨y, rfl, k2⟩ := hv.val
  exact ⟨((zam.refl _ _).put hw.1.1 _).put hw.2.1 _, hv.chg, hv.rd, hless.st st, y, zaa (by rw [zae, hN]; exact hw.2.2.1), k2⟩
theorem rn_flex {ca cb : Code} (hfl : E.fl = true) (ha : E.flex = true → RnC E m x ca) (hb : E.flex = false → RnC E m x cb) (hsl : rsl E m [t] [9] = true) :
    RnC E m x (.seq (.region r0 #[⟨some t, .move (.tmp 9), y0, q0, e0, none⟩] false) (.cond (.tmp t) ca cb)) := by
  obtain ⟨hm, hw, hr, hnd⟩ := zau hsl
  simp only [List.mem_cons, List.not_mem_nil, or_false, forall_eq] at hw
  intro a w O R st hB
  have hN := hB.ok.1
  refine wp_seq_k fun K hK => ?_
  refine zai ?_
  refine zal ?_
  rw [zac, hB.ok.2.2.2.2 hfl]
  refine zah (hK _ _ ?_)
  have hk : zam (RS m) a (a.put (some t) (.bool E.flex)) := (zam.refl _ _).put hw.1 _
  have hev : (a.put (some t) (.bool E.flex)).eval (.tmp t) = .bool E.flex := by rw [zac, zaa (by rw [hN]; exact hw.2.1)]
  have hB1 := hB.next hm hk (Chg.refl (fun _ => False) _) (fun _ h => h.elim) hB.rs (Nat.le_refl _)
  have fin : ∀ (P : Act → World → Prop) (e : Exit) a1 w1, RvX (fun a' w' => zam (RS m) (a.put (some t) (.bool E.flex)) a' ∧ P a' w') e a1 w1 → RvX (fun a' w' => zam (RS m) a a' ∧ P a' w') e a1 w1 := by
    intro P e a1 w1 hq
    cases e <;> try exact hq.elim
    exact ⟨hk.trans hq.1, hq.2⟩
  cases hx : E.flex with
  | true =>
    have h1 := ha hx _ w O R st hB1
    rw [hx] at hev h1 fin
    exact wp_cond_true hev (wp_mono h1 (fin _))
  | false =>
    have h1 := hb hx _ w O R st hB1
    rw [hx] at hev h1 fin
    exact wp_cond_false hev (wp_mono h1 (fin _))
theorem wp_ok {a : Act} {w : World} {O : Nat → Prop} {R : Nat} {st : Option Bs} {Q : Exit → Act → World → Prop} (hB : RB E a w O R st) (hsl : rsl E m [t1, t2, t3] [E.rr] = true) (h6 : decide (6 < E.N) = true) (hO : zaK Tryd.prog 28) (hC : zaK Tryd.prog 29)
    (hok : st ≠ none → ∀ a', zam (RS m) a a' → Q .normal a' w) (hbad : st = none → ∀ a', a'.defers = [] → (∃ t x, get a' 6 = .iface t x) → Q .ret a' w) :
    (Code.seq (.region r0 #[⟨some t1, .call { callee := .value (.func 28), args := #[.tmp E.rr], argTypes := us }, y0, q0, e0, none⟩, ⟨some t2, .unOp .not ui (.tmp t1), y1, q1, e1, none⟩] false)
      (.cond (.tmp t2) (.seq (.region r1 #[⟨some t3, .call { callee := .value (.func 29), args := #[.tmp E.rr], argTypes := us2 }, y2, q2, e2, none⟩, ⟨some 6, .assign (.tmp t3), y3, q3, e3, none⟩] false) .ret) .skip)).wp Tryd.prog Q a w := by
  obtain ⟨hm, hw, hr, hnd⟩ := zau hsl
  simp only [List.mem_cons, List.not_mem_nil, or_false, forall_eq_or_imp, forall_eq, List.nodup_cons, not_or, List.nodup_nil, and_true, not_false_eq_true] at hw hnd hr
  have hN := hB.ok.1
  have h7 : ∀ t, m ≤ t → t ≠ E.rr := fun t ht e => by have := hr.1; omega
  refine wp_seq_k fun K hK => ?_
  refine zai ?_
  refine zaH hO (by simp only [List.map_toArray, List.map_cons, List.map_nil, zac, hB.rd]; exact Ok_c hB.rs) ?_
  rintro _ _ ⟨rfl, rfl⟩
  refine wl_not (by rw [zac, zaa (by rw [hN]; exact hw.1.2.1)]; rfl) ?_
  rw [zac, zaa (by rw [hN]; exact hw.1.2.1)]
  refine zah (hK _ _ ?_)
  clear hK K
  simp only [notV]
  cases hst : st with
  | none =>
    refine wp_cond_true (by rw [zac, zaa (by rw [zae, hN]; exact hw.2.1.2.1)]; rfl) ?_
    refine wp_seq_k fun K hK => ?_
    refine zai ?_
    refine zaH hC (by
      simp only [List.map_toArray, List.map_cons, List.map_nil, zac, zab (h7 t1 hw.1.2.2), zab (h7 t2 hw.2.1.2.2), hB.rd]
      exact Complete_c hB.rs hB.err) ?_
    rintro v _ ⟨rfl, h1, _⟩
    obtain ⟨ti, x, rfl⟩ := h1 hst
    refine zak ?_
    rw [zac, zaa (by rw [zae, zae, hN]; exact hw.2.2.2.1)]
    refine zah (hK _ _ ?_)
    exact wp_ret (hbad hst _ (by simp only [zaj]; exact hB.ok.2.1) ⟨ti, x, zaa (by simp only [zae, hN]; exact of_decide_eq_true h6)⟩)
  | some bs =>
    refine wp_cond_false (by rw [zac, zaa (by rw [zae, hN]; exact hw.2.1.2.1)]; rfl) ?_
    exact wp_skip (hok (by rw [hst]; exact fun h => by cases h) _ (((zam.refl _ _).put hw.1.1 _).put hw.2.1.1 _))
end
end Go.Proofs.YtojpodeljpfgaabDoor
namespace Go.Proofs.YtojpodeljpfgaabDoor
set_option linter.all false
open Go.RowKit
set_option maxRecDepth 10000
set_option maxHeartbeats 2000000
section
variable {y0 y1 y2 y3 y4 y5 y6 y7 y8 y9 y10 y11 y12 y13 y14 y15 y16 y17 y18 y19 y20 y21 y22 y23 y24 y25 y26 y27 y28 y29 y30 y31 y32 y33 y34 y35 y36 y37 y38 y39 : TypeId} {q0 q1 q2 q3 q4 q5 q6 q7 q8 q9 q10 q11 q12 q13 q14 q15 q16 q17 q18 q19 q20 q21 q22 q23 q24 q25 q26 q27 q28 q29 q30 q31 q32 q33 q34 q35 q36 q37 q38 q39 : String} {e0 e1 e2 e3 e4 e5 e6 e7 e8 e9 e10 e11 e12 e13 e14 e15 e16 e17 e18 e19 e20 e21 e22 e23 e24 e25 e26 e27 e28 e29 e30 e31 e32 e33 e34 e35 e36 e37 e38 e39 : Array Edge} {r0 r1 r2 r3 r4 r5 : Nat}
variable {r6 r7 r8 r9 r10 r11 : Nat}
variable {E : REnv} {m mB sS k0 i I x aS iS lS vS t1 t2 t3 t4 t5 t6 t7 t8 t9 t10 t11 t12 u1 u2 u3 u4 u5 v1 v2 v3 v4 b1 b2 ug uo uc ui : Nat} {fs sub : List Fld} {pre : S → Prop} {c body cl cn : Code} {us us2 us3 : Array TypeId} {fn : FuncId} {T ty ti idx off ua uoT tyV : Nat} {a1 a2 a3 a4 a5 : Int} {of : K} {z : Value} {f : Fld} {sem : Bs → Option (D × Bs)}
theorem wp_put2 {a a1 : Act} {w w1 : World} {O : Nat → Prop} {R B p : Nat} {st : Option Bs} {s : S} (hB : RB E a w O R st) (hP : RP E sS k0 fs a w O R B p s) (hq : RvQ E m sem f x a w O R st a1 w1) (hf : fs[i]? = some f)
    (hF : (decide (fsz E.fl f = 1) && zaR Tryd.prog T idx (k0 + foff E.fl fs i) 1 && sizeB Tryd.prog ty 1) = true) (hsl0 : rsl E m [t5, vS] [] = true) (hsl : rsl E m [t1, t2, t3, t4] [sS, E.rr] = true) (hx : [t1, t2, t3, t4].all (fun t => decide (t ≠ vS)) = true) :
    (Code.seq (.region r1 #[⟨some t5, .move (.tmp x), y0, q0, e0, none⟩, ⟨some vS, .assign (.tmp t5), y1, q1, e1, none⟩] false) (.region r0 #[⟨some t1, .move (.tmp sS), y2, q2, e2, none⟩, ⟨some t2, .move (.tmp vS), y3, q3, e3, none⟩, ⟨some t3, .nilCheck (.tmp t1), y4, q4, e4, none⟩, ⟨some t4, .fieldAddr T (.tmp t3) idx, y5, q5, e5, none⟩, ⟨none, .store ty (.tmp t4) (.tmp t2), y6, q6, e6, none⟩] false)).wp Tryd.prog (RdQ E m k0 fs (i + 1) (semSet i sem) a w O R B p st s) a1 w1 := by
  obtain ⟨hm, hw, hr, hnd⟩ := zau hsl0
  simp only [List.mem_cons, List.not_mem_nil, or_false, forall_eq_or_imp, forall_eq, List.nodup_cons, not_or, List.nodup_nil, and_true, not_false_eq_true] at hw hnd
  obtain ⟨q1, q2, q3, q4, d, v, q5, q6⟩ := hq
  have hN : a1.tmps.size = E.N := q1.size.trans hB.ok.1
  refine wp_seq_k fun K hK => ?_
  refine zai ?_
  refine zal ?_
  refine zak ?_
  rw [zac, zac, zaa (by rw [hN]; exact hw.1.2.1), q5]
  refine zah (hK _ _ ?_)
  exact wp_put hB hP ⟨(q1.put hw.1.1 _).put hw.2.1 _, q2, q3, q4, d, v, zaa (by rw [zae, hN]; exact hw.2.2.1), q6⟩ hf hF hsl hx
theorem list_rv {a0 a : Act} {w0 w : World} {O : Nat → Prop} {R : Nat} {bs r : Bs} {L : Int} {oa : Option Addr} {cap : Nat} {xs : List D} {st' : Option Bs} (hk : zam (RS m) a0 a) (hc : Chg (fun k => k = R) w0 w) (hL : rLen E.flex bs = some (L, r)) (hLr : r.length ≤ bs.length)
    (hrs : RdS w (fun g => ¬ O g) R (((some r : Option Bs).bind (zaN (oneR E of sub) L.toNat)).map (·.2))) (hl : stLen (((some r : Option Bs).bind (zaN (oneR E of sub) L.toNat)).map (·.2)) ≤ r.length) (ga : get a aS = .slice oa xs.length cap) (hn : xs.length ≤ 1073741824)
    (hcap : oa = none → cap = 0) (hnil : oa.isNone = nilArr a3 E.ver L) (hx : xs = [] ∨ ∃ g cs T, oa = some ⟨g, 0, none⟩ ∧ ¬ O g ∧ Blk w g cs T ∧ xs.length * eszR E of sub ≤ cs.length ∧ ∀ i x, xs[i]? = some x → repR E of sub w (fun g => ¬ O g) x ((cs.drop (i * eszR E of sub)).take (eszR E of sub)))
    (hy : ∀ y, zaN (oneR E of sub) L.toNat r = some y → xs = y.1) : RvQ E m (decF E.flex E.ver (.mk .list a1 a2 a3 a4 a5 of sub)) (.mk .list a1 a2 a3 a4 a5 of sub) aS a0 w0 O R (some bs) a w := by
  have e : (some bs : Option Bs).bind (decF E.flex E.ver (.mk .list a1 a2 a3 a4 a5 of sub)) = (zaN (oneR E of sub) L.toNat r).map fun x => (.arr (nilArr a3 E.ver L) x.1, x.2) := by
    rw [Option.bind_some, decF_listR, hL, Option.bind_some]
  have e2 : ((some bs : Option Bs).bind (decF E.flex E.ver (.mk .list a1 a2 a3 a4 a5 of sub))).map (·.2) = ((some r : Option Bs).bind (zaN (oneR E of sub) L.toNat)).map (·.2) := by
    rw [e, Option.map_map, Option.bind_some]; rfl
  refine ⟨hk, hc, by rw [e2]; exact hrs, by rw [e2]; exact Nat.le_trans hl hLr, .arr oa.isNone xs, _, ga, rfl, rfl, repF_listR rfl hcap hn hx, fun y h => ?_⟩
  rw [e] at h
  cases hh : zaN (oneR E of sub) L.toNat r with
  | none => rw [hh] at h; cases h
  | some v =>
    rw [hh] at h
    simp only [Option.map_some, Option.some.injEq] at h
    rw [← h, hy v hh, hnil]
theorem rl_rest (hf : fs[i]? = some (.mk .list a1 a2 a3 a4 a5 of sub)) (hB2 : (roomB Tryd.prog ty (eszR E of sub) && intTB Tryd.prog ti && sliceB Tryd.prog ty (eSz Tryd.prog ty) && decide (6 < E.N)) = true)
    (hF : (decide (fsz E.fl (.mk .list a1 a2 a3 a4 a5 of sub) = 1) && zaR Tryd.prog T idx (k0 + foff E.fl fs i) 1 && sizeB Tryd.prog tyV 1) = true) (hz : ∀ e, (Tryd.prog).underlying ty = some (.slice e) → zeroB Tryd.prog e z) (hzs : z.cells.size = eszR E of sub)
    (hOk : zaK Tryd.prog 28) (hCo : zaK Tryd.prog 29) (hbody : ElC E mB aS iS (eszR E of sub) (oneR E of sub) (repR E of sub) z.cells.toList body)
    (s1 : rsl E iS [t1, t2, t3] [E.rr, aS, lS] = true) (s2 : rsl E iS [t4, t5] [aS, lS] = true) (s3 : rsl E iS [t6, t7, t8, t9, t10] [aS, lS] = true) (s4 : rsl E mB [u1, u2, u3, u4, u5] [E.rr, aS, iS, lS] = true) (s5 : rsl E iS [iS] [aS, lS] = true) (s6 : rsl E m [t11, vS] [] = true) (s7 : rsl E m [v1, v2, v3, v4] [sS, E.rr] = true)
    (s8 : [v1, v2, v3, v4].all (fun t => decide (t ≠ vS)) = true) (s9 : rsl E m [aS] [] = true) (s10 : (decide (m ≤ iS) && decide (aS ≠ lS)) = true)
    {a0 a : Act} {w0 w : World} {O : Nat → Prop} {R B p : Nat} {st : Option Bs} {s : S} {oa : Option Addr} {L : Int} (hB0 : RB E a0 w0 O R st) (hP0 : RP E sS k0 fs a0 w0 O R B p s) (hk : zam (RS m) a0 a) (hc : Chg (fun k => k = R) w0 w)
    (hrs : RdS w (fun g => ¬ O g) R ((st.bind (rLen E.flex)).map (·.2))) (hll : stLen ((st.bind (rLen E.flex)).map (·.2)) ≤ stLen st) (gl : get a lS = .int .i32 L) (hL : ∀ y, st.bind (rLen E.flex) = some y → L = y.1) (ga : get a aS = .slice oa 0 0)
    (hnil : ∀ y, st.bind (rLen E.flex) = some y → (if 0 < y.1 then false else oa.isNone) = nilArr a3 E.ver y.1) :
    (Code.seq (.seq (.region r0 #[⟨some t1, .call { callee := .value (.func 28), args := #[.tmp E.rr], argTypes := us }, y0, q0, e0, none⟩, ⟨some t2, .unOp .not uo (.tmp t1), y1, q1, e1, none⟩] false)
        (.cond (.tmp t2) (.seq (.region r1 #[⟨some t3, .call { callee := .value (.func 29), args := #[.tmp E.rr], argTypes := us2 }, y2, q2, e2, none⟩, ⟨some 6, .assign (.tmp t3), y3, q3, e3, none⟩] false) .ret) .skip))
      (.seq (.region r2 #[⟨some t4, .move (.tmp aS), y4, q4, e4, none⟩, ⟨some t5, .slice ty (.tmp t4) none (some (.const (.int .i64 0))) none, y5, q5, e5, none⟩, ⟨some aS, .assign (.tmp t5), y6, q6, e6, none⟩] false)
      (.seq (.seq (.region r3 #[⟨some t6, .move (.tmp lS), y7, q7, e7, none⟩, ⟨some t7, .binOp .gtr ug (.tmp t6) (.const (.int .i32 0)) ug, y8, q8, e8, none⟩] false)
          (.cond (.tmp t7) (.region r4 #[⟨some t8, .move (.tmp aS), y9, q9, e9, none⟩, ⟨some t9, .move (.tmp lS), y10, q10, e10, none⟩, ⟨some t10, .call { callee := .builtin .append, args := #[.tmp t8, .tmp t9], argTypes := #[ty, ti] }, y11, q11, e11, none⟩, ⟨some aS, .assign (.tmp t10), y12, q12, e12, none⟩] false) .skip))
      (.seq (.seq (.region r5 #[⟨some iS, .assign (.const (.int .i32 0)), y13, q13, e13, none⟩] false) (.block b1 (.loop (.seq (.seq (.region r6 #[⟨some u1, .move (.tmp iS), y14, q14, e14, none⟩, ⟨some u2, .move (.tmp lS), y15, q15, e15, none⟩, ⟨some u3, .binOp .lss ua (.tmp u1) (.tmp u2) ua, y16, q16, e16, none⟩] false) (.cond (.tmp u3) .skip (.exit b1)))
          (.seq (.block b2 body) (.region r7 #[⟨some u4, .move (.tmp iS), y17, q17, e17, none⟩, ⟨some u5, .binOp .add ua (.tmp u4) (.const (.int .i32 1)) ua, y18, q18, e18, none⟩, ⟨some iS, .assign (.tmp u5), y19, q19, e19, none⟩] false))))))
        (.seq (.region r8 #[⟨some t11, .move (.tmp aS), y20, q20, e20, none⟩, ⟨some vS, .assign (.tmp t11), y21, q21, e21, none⟩] false) (.region r9 #[⟨some v1, .move (.tmp sS), y22, q22, e22, none⟩, ⟨some v2, .move (.tmp vS), y23, q23, e23, none⟩, ⟨some v3, .nilCheck (.tmp v1), y24, q24, e24, none⟩, ⟨some v4, .fieldAddr T (.tmp v3) idx, y25, q25, e25, none⟩, ⟨none, .store tyV (.tmp v4) (.tmp v2), y26, q26, e26, none⟩] false)))))).wp Tryd.prog
      (RdQ E m k0 fs (i + 1) (semSet i (decF E.flex E.ver (.mk .list a1 a2 a3 a4 a5 of sub))) a0 w0 O R B p st s) a w := by
  simp only [Bool.and_eq_true, decide_eq_true_eq] at hB2 s10
  obtain ⟨⟨⟨hroom, hti⟩, hsl⟩, h6⟩ := hB2
  obtain ⟨hm, hw9, _, _⟩ := zau s9
  obtain ⟨hmi, hw1, hr1, _⟩ := zau s1
  obtain ⟨_, hw2, hr2, hnd2⟩ := zau s2
  obtain ⟨_, hw3, hr3, hnd3⟩ := zau s3
  simp only [List.mem_cons, List.not_mem_nil, or_false, forall_eq_or_imp, forall_eq, List.nodup_cons, not_or, List.nodup_nil, and_true, not_false_eq_true] at hw9 hw1 hr1 hw2 hr2 hnd2 hw3 hr3 hnd3
  have haN : aS < E.N := hw9.2.1
  have up : ∀ {a a' : Act}, zam (RS iS) a a' → zam (RS m) a a' := fun h => h.mono fun t ht => ⟨by have := ht.1; omega, ht.2⟩
  have hBa : RB E a w O R ((st.bind (rLen E.flex)).map (·.2)) := hB0.next hm hk hc (fun k h => by rw [h]; exact hB0.oR) hrs hll
  refine wp_seq_k fun K hK => ?_
  refine wp_ok hBa (by unfold rsl at s1 ⊢; simp only [Bool.and_eq_true, List.all_cons, List.all_nil] at s1 ⊢; exact ⟨⟨⟨s1.1.1.1, s1.1.1.2⟩, ⟨s1.1.2.1, trivial⟩⟩, s1.2⟩ : rsl E iS [t1, t2, t3] [E.rr] = true) (by simpa using h6) hOk hCo ?_ ?_
  rotate_left
  · intro hbad a' hd hif
    have hn : st.bind (rLen E.flex) = none := by
      cases hh : st.bind (rLen E.flex) with
      | none => rfl
      | some y => rw [hh] at hbad; cases hbad
    refine ⟨hd, hif, ?_, hc.mono fun k _ h => by rw [h]; exact hB0.oR⟩
    cases st with
    | none => rfl
    | some bs =>
      rw [Option.bind_some] at hn ⊢
      unfold semSet
      rw [decF_listR, hn]; rfl
  intro hgood a1' hk1
  refine hK _ _ ?_
  clear hK K
  obtain ⟨bs, hst⟩ : ∃ bs, st = some bs := by cases st with | none => exact absurd rfl hgood | some bs => exact ⟨bs, rfl⟩
  subst hst
  obtain ⟨y, hy⟩ : ∃ y, rLen E.flex bs = some y := by
    cases hh : rLen E.flex bs with
    | none => rw [Option.bind_some, hh] at hgood; exact absurd rfl hgood
    | some y => exact ⟨y, rfl⟩
  obtain ⟨L', r⟩ := y
  have eL : L = L' := hL (L', r) (by rw [Option.bind_some]; exact hy)
  subst eL
  have hnil' := hnil (L, r) (by rw [Option.bind_some]; exact hy)
  rw [Option.bind_some, hy] at hrs hll
  change RdS w (fun g => ¬ O g) R (some r) at hrs
  change stLen (some r) ≤ stLen (some bs) at hll
  have hLr := rLen_le hy
  have hlim : r.length ≤ 1073741824 := Nat.le_trans hll hB0.lim
  have hN1 : a1'.tmps.size = E.N := hk1.size.trans hBa.ok.1
  have hkA : zam (RS m) a0 a1' := hk.trans (up hk1)
  have ga1 : get a1' aS = .slice oa 0 0 := (hk1.slot _ hr1.2.1).trans ga
  have gl1 : get a1' lS = .int .i32 L := (hk1.slot _ hr1.2.2).trans gl
  have nal : ¬ aS = lS := s10.2
  have nt : ∀ t, iS ≤ t → ¬ t = aS ∧ ¬ t = lS := fun t ht => by have := hr1.2.1.1; have := hr1.2.2.1; omega
  have ev : ∀ {d t : Nat} {a : Act} {v : Value}, d < a.tmps.size → get (a.put (some d) v) t = if d = t then v else get a t := fun h => get_put h
  refine wp_seq_k fun K hK => ?_
  refine zai ?_
  refine zal ?_
  rw [zac, ga1]
  have e5 : (a1'.put (some t4) (.slice oa 0 0)).eval (.tmp t4) = .slice oa 0 0 := by rw [zac, zaa (by rw [hN1]; exact hw2.1.2.1)]
  refine zaw (by show slcOK none (some (.int .i64 0)) none ((a1'.put (some t4) (.slice oa 0 0)).eval (.tmp t4)) = true; rw [e5]; rfl) hsl ?_
  have e6 : pv Tryd.prog w (a1'.put (some t4) (.slice oa 0 0)).eval (.slice ty (.tmp t4) none (some (.const (.int .i64 0))) none) = .slice oa 0 0 := by
    show slcV (eSz Tryd.prog ty) none (some (.int .i64 0)) none ((a1'.put (some t4) (.slice oa 0 0)).eval (.tmp t4)) = _
    rw [e5]
    simp [slcV, optI]
  rw [e6]
  refine zak ?_
  rw [zac, zaa (by rw [zae, hN1]; exact hw2.2.2.1)]
  refine zah (hK _ _ ?_)
  clear hK K e5 e6
  obtain ⟨a2', ha2⟩ : ∃ a2', a2' = ((a1'.put (some t4) (.slice oa 0 0)).put (some t5) (.slice oa 0 0)).put (some aS) (.slice oa 0 0) := ⟨_, rfl⟩
  rw [← ha2]
  have hN2 : a2'.tmps.size = E.N := by rw [ha2]; simp only [zae, hN1]
  have hkt4 : ¬ RS m t4 := fun h => by have := h.1; have := hw2.1.2.2; omega
  have hkt5 : ¬ RS m t5 := fun h => by have := h.1; have := hw2.2.2.2; omega
  have hkB : zam (RS m) a0 a2' := by rw [ha2]; exact ((hkA.put hkt4 _).put hkt5 _).put hw9.1 _
  have ga2 : get a2' aS = .slice oa 0 0 := by rw [ha2, zaa (by simp only [zae, hN1]; exact haN)]
  have gl2 : get a2' lS = .int .i32 L := by rw [ha2, zab nal, zab (nt t5 hw2.2.2.2).2, zab (nt t4 hw2.1.2.2).2]; exact gl1
  clear ha2
  refine wp_seq_k fun K hK => ?_
  refine wp_seq_k fun K2 hK2 => ?_
  refine zai ?_
  refine zal ?_
  rw [zac, gl2]
  have e7 : (a2'.put (some t6) (.int .i32 L)).eval (.tmp t6) = .int .i32 L := by rw [zac, zaa (by rw [hN2]; exact hw3.1.2.1)]
  refine wl_gtr (by rw [e7]; rfl) ?_
  rw [e7]
  simp only [zaf, cmp2]
  refine zah (hK2 _ _ ?_)
  clear hK2 K2 e7
  have hkt : ∀ t, iS ≤ t → ¬ RS m t := fun t ht h => by have := h.1; omega
  obtain ⟨a3', ha3⟩ : ∃ a3', a3' = ((a2'.put (some t6) (.int .i32 L)).put (some t7) (.bool (decide (0 < L)))) := ⟨_, rfl⟩
  rw [← ha3]
  have hN3 : a3'.tmps.size = E.N := by rw [ha3]; simp only [zae, hN2]
  have hkC : zam (RS m) a0 a3' := by rw [ha3]; exact (hkB.put (hkt t6 hw3.1.2.2) _).put (hkt t7 hw3.2.1.2.2) _
  have ga3 : get a3' aS = .slice oa 0 0 := by rw [ha3, zab (nt t7 hw3.2.1.2.2).1, zab (nt t6 hw3.1.2.2).1]; exact ga2
  have gl3 : get a3' lS = .int .i32 L := by rw [ha3, zab (nt t7 hw3.2.1.2.2).2, zab (nt t6 hw3.1.2.2).2]; exact gl2
  have g7 : get a3' t7 = .bool (decide (0 < L)) := by rw [ha3, zaa (by rw [zae, hN2]; exact hw3.2.1.2.1)]
  clear ha3
  by_cases hpos : 0 < L
  · rw [decide_eq_true hpos] at g7
    rw [if_pos hpos] at hnil'
    refine wp_cond_true (by rw [zac]; exact g7) ?_
    obtain ⟨n, hn⟩ : ∃ n : Nat, L = n := ⟨L.toNat, by omega⟩
    subst hn
    refine zai ?_
    refine zal ?_
    rw [zac, ga3]
    refine zal ?_
    rw [zac, zab (nt t8 hw3.2.2.1.2.2).2, gl3]
    refine wl_room (k := .i32) (n := n) (oa := oa) hroom hti hz hzs (by rw [zac, zab (fun e => hnd3.2.2.1.1 e.symm), zaa (by rw [hN3]; exact hw3.2.2.1.2.1)]) (by rw [zac, zaa (by rw [zae, hN3]; exact hw3.2.2.2.1.2.1)]) (by omega) (by omega) ?_
    intro w1 cap cs Tb hc1 hb1 hlen1 hseg1 hs1
    refine zak ?_
    rw [zac, zaa (by simp only [zae, hN3]; exact hw3.2.2.2.2.2.1)]
    refine zah (hK _ _ ?_)
    clear hK K
    obtain ⟨a4', ha4⟩ : ∃ a4', a4' = ((((a3'.put (some t8) (.slice oa 0 0)).put (some t9) (.int .i32 n)).put (some t10) (.slice (some ⟨w.heap.size, 0, none⟩) n cap)).put (some aS) (.slice (some ⟨w.heap.size, 0, none⟩) n cap)) := ⟨_, rfl⟩
    rw [← ha4]
    have hN4 : a4'.tmps.size = E.N := by rw [ha4]; simp only [zae, hN3]
    have hkD : zam (RS m) a0 a4' := by rw [ha4]; exact (((hkC.put (hkt t8 hw3.2.2.1.2.2) _).put (hkt t9 hw3.2.2.2.1.2.2) _).put (hkt t10 hw3.2.2.2.2.2.2) _).put hw9.1 _
    have ga4 : get a4' aS = .slice (some ⟨w.heap.size, 0, none⟩) n cap := by rw [ha4, zaa (by simp only [zae, hN3]; exact haN)]
    have gl4 : get a4' lS = .int .i32 n := by rw [ha4, zab nal, zab (nt t10 hw3.2.2.2.2.2.2).2, zab (nt t9 hw3.2.2.2.1.2.2).2, zab (nt t8 hw3.2.2.1.2.2).2]; exact gl3
    clear ha4
    have hltR : R < w.heap.size := hrs.lt
    have hgE : gE ≠ w.heap.size := by
      intro e
      obtain ⟨_, _, _, h2⟩ := hBa.err
      have : w.heap[gE]? = none := by rw [Array.getElem?_eq_none]; omega
      simp [ldOK, World.cell?, this] at h2
    have hB1 : RB E a4' w1 (fun g => O g ∨ g = w.heap.size) R (some r) := by
      have hx := hB0.next hm hkD (hc.trans (hc1.mono fun _ _ h => h.elim) fun _ _ h => h) (fun k h => by rw [h]; exact hB0.oR) (hrs.stay (Stay.of hc1 fun _ _ _ h => h) (hc1.block R hltR fun h => h)) hll
      refine ⟨hx.ok, hx.rd, hrs.stay ⟨fun k hk hg => ⟨hc1.block k hk fun h => h, fun h => ?_⟩⟩ (hc1.block R hltR fun h => h), .inl hx.oR, fun h => ?_, hx.err, fun k hk h => ?_, hx.lim⟩
      · rcases h with h | h
        · exact hg h
        · omega
      · rcases h with h | h
        · exact hx.oE h
        · exact hgE h
      · rcases h with h | h
        · exact hx.new k hk h
        · omega
    have hle : eszR E of sub = eszR E of sub := rfl
    refine wp_seq_k fun K hK => ?_
    refine rd_loop (m := mB) (repR_stay E of sub) hbody s4 s5 hB1 (.inr rfl) (by omega) ga4 gl4 (by omega) (by omega) hb1 hlen1 hseg1 (fun a5' w2 hinv => ?_) (fun a5' w2 hfl => ?_)
    · refine hK _ _ ?_
      clear hK K
      obtain ⟨j1, j2, j3, j4, cs2, xs, j5, j6, j7, j8, _, j9⟩ := hinv
      have hcw : Chg (fun k => k = R) w w2 := (hc1.mono (Y := fun k => k = R) fun _ _ h => h.elim).trans j2 fun k hk h => by rcases h with h | h; exact h; omega
      have hst2 : Stay w2 w2 (fun g => ¬ (O g ∨ g = w.heap.size)) (fun g => ¬ O g) := Stay.sub fun k _ h => fun h2 => h (.inl h2)
      refine wp_put2 hB0 hP0 (list_rv (oa := some ⟨w.heap.size, 0, none⟩) (cap := cap) (xs := xs) (st' := none) (hkD.trans (up j1)) (hc.trans hcw fun _ _ h => h) hy hll (by rw [Int.toNat_natCast]; exact j3.stay hst2 rfl) (by rw [Int.toNat_natCast]; exact j4) (by rw [j7]; exact (j1.slot _ hr1.2.1).trans ga4) (by omega) (fun h => by cases h) ?_ (.inr ⟨w.heap.size, cs2, Tb, rfl, hBa.new _ (Nat.le_refl _), j5, by rw [j7]; exact j6, fun k x hx => repR_stay E of sub _ _ _ _ _ _ hst2 (j8 k x hx)⟩) (by rw [Int.toNat_natCast]; exact fun y h => j9 y (by rw [Option.bind_some]; exact h))) hf hF s6 s7 s8
      rw [← hnil']; rfl
    · obtain ⟨f1, f2, f3, f4⟩ := hfl
      have hcw : Chg O w0 w2 := ((hc.mono fun k _ h => by rw [h]; exact hB0.oR : Chg O w0 w).trans hc1 fun _ _ h => h.elim).trans f4 fun k hk h => by
        rcases h with h | h
        · exact h
        · have := hc.size; omega
      refine ⟨f1, f2, ?_, hcw⟩
      rw [Option.bind_some] at f3 ⊢
      unfold semSet
      rw [decF_listR, hy, Option.bind_some, Int.toNat_natCast, f3]; rfl
  · rw [decide_eq_false hpos] at g7
    rw [if_neg hpos] at hnil'
    refine wp_cond_false (by rw [zac]; exact g7) ?_
    refine wp_skip (hK _ _ ?_)
    clear hK K
    refine wp_seq_k fun K hK => ?_
    refine rd_loop0 (m := mB) s4 s5 hN3 gl3 (by omega) fun a5' hk5 => ?_
    refine hK _ _ ?_
    clear hK K
    have h0 : L.toNat = 0 := by omega
    refine wp_put2 hB0 hP0 (list_rv (oa := oa) (cap := 0) (xs := []) (st' := none) (hkC.trans (up hk5)) hc hy hll (by rw [h0]; exact hrs) (by rw [h0]; exact Nat.le_refl _) ((hk5.slot _ hr1.2.1).trans ga3) (by simp) (fun _ => rfl) hnil' (.inl rfl) (by rw [h0]; intro y h; simp only [zaN, Option.some.injEq] at h; rw [← h])) hf hF s6 s7 s8
end
end Go.Proofs.YtojpodeljpfgaabDoor
namespace Go.Proofs.YtojpodeljpfgaabDoor
set_option linter.all false
open Go.RowKit
set_option maxRecDepth 10000
set_option maxHeartbeats 2000000
def tlP (E : REnv) (fs : List Fld) : Sem := fun s bs => if E.flex then (if anyTag fs then semTagged (zax E.flex E.ver fs 0) s bs else semTags true s bs) else some (s, bs)
theorem dfltL_get : ∀ (fs : List Fld) (j : Nat) (f : Fld), fs[j]? = some f → (dfltL fs)[j]? = some (dfltF f)
  | [], _, _, h => by simp at h
  | g :: r, 0, f, h => by simp at h; subst h; simp [dfltL]
  | g :: r, j + 1, f, h => by simp only [dfltL, List.getElem?_cons_succ] at h ⊢; exact dfltL_get r j f h
theorem fresh0 (fs : List Fld) : Fresh fs 0 ⟨dfltL fs, []⟩ := fun j f _ h => dfltL_get fs j f h
theorem part_sem (E : REnv) (fs : List Fld) (bs : Bs) : decPart E.flex E.ver fs bs = semL E fs 0 (tlP E fs) ⟨dfltL fs, []⟩ bs := by
  unfold decPart partOf semL tlP
  simp only [List.drop_zero, List.take_zero, List.nil_append]
theorem Stp.part {E : REnv} {fs : List Fld} {st st' : Option Bs} {s' : S} (h : Stp (semL E fs 0 (tlP E fs)) st ⟨dfltL fs, []⟩ st' s') : st' = ((st.bind fun b => (decPart E.flex E.ver fs b).map fun x => (x.1.d, x.2)).map (·.2)) ∧ ∀ y, (st.bind fun b => (decPart E.flex E.ver fs b).map fun x => (x.1.d, x.2)) = some y → s'.d = y.1 := by
  have e : (st.bind fun b => (decPart E.flex E.ver fs b).map fun x => (x.1.d, x.2)) = (st.bind (semL E fs 0 (tlP E fs) ⟨dfltL fs, []⟩)).map fun x => (x.1.d, x.2) := by
    cases st with
    | none => rfl
    | some bs => simp only [Option.bind_some, part_sem]
  unfold Stp at h
  rw [e]
  cases hh : st.bind (semL E fs 0 (tlP E fs) ⟨dfltL fs, []⟩) with
  | none => rw [hh] at h; exact ⟨h, fun y hy => by cases hy⟩
  | some y =>
    rw [hh] at h
    obtain ⟨rfl, rfl⟩ := h
    exact ⟨rfl, fun z hz => by simp only [Option.map_some, Option.some.injEq] at hz; rw [← hz]⟩
def DefC (fn : FuncId) (zc dc : List Value) : Prop := ∀ (w : World) (b off : Nat) (cs : List Value) (T : TypeId), Blk w b cs T → off + zc.length ≤ cs.length → (cs.drop off).take zc.length = zc →
  zaD Tryd.prog fn #[.pointer (some ⟨b, off, none⟩)] w fun _ w' => Blk w' b (zas cs off dc) T ∧ Chg (fun k => k = b) w w'
section
variable {y0 y1 y2 y3 y4 y5 y6 y7 y8 y9 y10 y11 y12 y13 y14 y15 y16 y17 y18 y19 y20 y21 y22 y23 y24 y25 y26 y27 y28 y29 y30 y31 y32 y33 y34 y35 y36 y37 y38 y39 : TypeId} {q0 q1 q2 q3 q4 q5 q6 q7 q8 q9 q10 q11 q12 q13 q14 q15 q16 q17 q18 q19 q20 q21 q22 q23 q24 q25 q26 q27 q28 q29 q30 q31 q32 q33 q34 q35 q36 q37 q38 q39 : String} {e0 e1 e2 e3 e4 e5 e6 e7 e8 e9 e10 e11 e12 e13 e14 e15 e16 e17 e18 e19 e20 e21 e22 e23 e24 e25 e26 e27 e28 e29 e30 e31 e32 e33 e34 e35 e36 e37 e38 e39 : Array Edge} {r0 r1 r2 r3 r4 r5 : Nat}
variable {r6 r7 r8 r9 r10 r11 r12 : Nat}
variable {E : REnv} {m mB sS k0 i I x y ys aS iS lS vS t1 t2 t3 t4 t5 t6 t7 t8 t9 t10 t11 t12 t13 t14 t15 t16 t17 u1 u2 u3 u4 u5 v1 v2 v3 v4 b1 b2 ug uo uc ui : Nat} {fs sub : List Fld} {pre : S → Prop} {c body cl cn cr : Code} {us us2 us3 : Array TypeId} {fn : FuncId} {T ty ti idx off ua uoT tyV tyE sz : Nat} {a1 a2 a3 a4 a5 : Int} {of : K} {z : Value} {f : Fld} {sem : Bs → Option (D × Bs)}
theorem splice_seg' {cs dc : List Value} {off : Nat} (h : off + dc.length ≤ cs.length) : ((zas cs off dc).drop off).take dc.length = dc := splice_seg h
theorem el_struct {zc dc : List Value} (hty : sliceB Tryd.prog ty (ssz E.fl sub) = true) (hen : zaK Tryd.prog fn) (hdef : DefC fn zc dc) (hz : (decide (zc.length = ssz E.fl sub) && decide (dc.length = ssz E.fl sub) && repSB E.fl sub (dfltL sub) dc) = true)
    (h : RdC ⟨E.N, E.ver, E.flex, E.fl, E.rr, none⟩ mB ys 0 sub I (Fresh sub 0) (semL ⟨E.N, E.ver, E.flex, E.fl, E.rr, none⟩ sub 0 (tlP ⟨E.N, E.ver, E.flex, E.fl, E.rr, none⟩ sub)) c) (s1 : rsl E m [t1, t2, t3, y, t4, t5, t6, ys] [E.rr, aS, iS] = true) (s2 : decide (m ≤ mB) = true) (s3 : rsl E mB [] [ys] = true) :
    ElC E m aS iS (ssz E.fl sub) (oneR E .struct sub) (repR E .struct sub) zc
      (.seq (.region r0 #[⟨some t1, .move (.tmp aS), y0, q0, e0, none⟩, ⟨some t2, .move (.tmp iS), y1, q1, e1, none⟩, ⟨some t3, .indexAddr ty (.tmp t1) (.tmp t2), y2, q2, e2, none⟩, ⟨some y, .assign (.tmp t3), y3, q3, e3, none⟩] false)
        (.seq (.region r1 #[⟨some t4, .move (.tmp y), y4, q4, e4, none⟩, ⟨some t5, .call { callee := .value (.func fn), args := #[.tmp t4], argTypes := us }, y5, q5, e5, none⟩] false)
          (.seq (.region r2 #[⟨some t6, .move (.tmp y), y6, q6, e6, none⟩, ⟨some ys, .assign (.tmp t6), y7, q7, e7, none⟩] false) c))) := by
  simp only [Bool.and_eq_true, decide_eq_true_eq] at hz s2
  obtain ⟨⟨z1, z2⟩, z3⟩ := hz
  obtain ⟨hm, hw, hr, hnd⟩ := zau s1
  have hnr := nodup_rev hnd
  simp only [List.reverse_cons, List.reverse_nil, List.nil_append, List.cons_append, List.mem_cons, List.not_mem_nil, or_false, List.nodup_cons, not_or, List.nodup_nil, and_true, not_false_eq_true] at hnr
  simp only [List.mem_cons, List.not_mem_nil, or_false, forall_eq_or_imp, forall_eq, List.nodup_cons, not_or, List.nodup_nil, and_true, not_false_eq_true] at hw hnd hr
  obtain ⟨hmB, _, hrB, _⟩ := zau s3
  intro a w O R b j n cap st cs Tb hB hOb hne ga gi hj hb hlen hseg
  have hN := hB.ok.1
  have ev : ∀ {d t : Nat} {a : Act} {v : Value}, d < a.tmps.size → get (a.put (some d) v) t = if d = t then v else get a t := fun h => get_put h
  have nA : ∀ t, m ≤ t → ¬ t = aS ∧ ¬ t = iS ∧ ¬ t = E.rr := fun t ht => by have := hr.1.1; have := hr.2.1.1; have := hr.2.2.1; omega
  have hle : (j + 1) * ssz E.fl sub ≤ n * ssz E.fl sub := Nat.mul_le_mul_right _ hj
  rw [Nat.add_mul, Nat.one_mul] at hle
  refine wp_seq_k fun K hK => ?_
  refine zai ?_
  refine zal ?_
  rw [zac, ga]
  refine zal ?_
  rw [zac, ev (by rw [hN]; exact hw.1.2.1), if_neg (nA t1 hw.1.2.2).2.1, gi]
  refine wl_indexAddr (b := b) (o := 0) (k := .i32) (i := j) (len := n) (cap := cap) hty (by simp only [zac, ev, zae, hN, hw, hnd, hnr, if_true, if_false]) (by simp only [zac, ev, zae, hN, hw, hnd, hnr, if_true, if_false]) hj ?_
  rw [Nat.zero_add]
  refine zak ?_
  simp only [zac, ev, zae, hN, hw, if_true]
  refine zah (hK _ _ ?_)
  clear hK K
  refine wp_seq_k fun K hK => ?_
  refine zai ?_
  refine zal ?_
  simp only [zac, ev, zae, hN, hw, if_true]
  refine zaH hen (by simp only [List.map_toArray, List.map_cons, List.map_nil, zac, ev, zae, hN, hw, if_true]; exact hdef w b (j * ssz E.fl sub) cs Tb hb (by omega) (by rw [z1]; exact hseg)) ?_
  rintro vd w1 ⟨hb1, hc1⟩
  refine zah (hK _ _ ?_)
  clear hK K
  refine wp_seq_k fun K hK => ?_
  refine zai ?_
  refine zal ?_
  simp only [zac, ev, zae, hN, hw, hnd, hnr, if_true, if_false]
  refine zak ?_
  simp only [zac, ev, zae, hN, hw, hnd, hnr, if_true, if_false]
  refine zah (hK _ _ ?_)
  clear hK K
  have hXb : ∀ k, ¬ O k → k < w.heap.size → ¬ k = b := fun k hk _ e => hk (e ▸ hOb)
  have hrs1 : RdS w1 (fun g => ¬ O g) R st := hB.rs.stay (Stay.of hc1 hXb) (hc1.block R hB.rs.lt hne)
  obtain ⟨a8, ha8⟩ : ∃ a8, a8 = (((((((a.put (some t1) (.slice (some ⟨b, 0, none⟩) n cap)).put (some t2) (.int .i32 j)).put (some t3) (.pointer (some ⟨b, j * ssz E.fl sub, none⟩))).put (some y) (.pointer (some ⟨b, j * ssz E.fl sub, none⟩))).put (some t4) (.pointer (some ⟨b, j * ssz E.fl sub, none⟩))).put (some t5) vd).put (some t6) (.pointer (some ⟨b, j * ssz E.fl sub, none⟩))).put (some ys) (.pointer (some ⟨b, j * ssz E.fl sub, none⟩)) := ⟨_, rfl⟩
  rw [← ha8]
  have hk8 : zam (RS m) a a8 := by
    rw [ha8]
    exact ((((((((zam.refl _ _).put hw.1.1 _).put hw.2.1.1 _).put hw.2.2.1.1 _).put hw.2.2.2.1.1 _).put hw.2.2.2.2.1.1 _).put hw.2.2.2.2.2.1.1 _).put hw.2.2.2.2.2.2.1.1 _).put hw.2.2.2.2.2.2.2.1 _
  have g8 : get a8 ys = .pointer (some ⟨b, j * ssz E.fl sub, none⟩) := by rw [ha8, zaa (by simp only [zae, hN]; exact hw.2.2.2.2.2.2.2.2.1)]
  clear ha8
  have hB8 : RB E a8 w1 O R st := hB.next hm hk8 hc1 (fun k h => by rw [h]; exact hOb) hrs1 (Nat.le_refl _)
  have hl1 : (zas cs (j * ssz E.fl sub) dc).length = cs.length := zaG (by omega)
  have hat : At w1 (fun g => ¬ O g) E.fl sub ⟨dfltL sub, []⟩ b (j * ssz E.fl sub + 0) := by
    refine ⟨_, _, hb1, by rw [hl1]; omega, ?_⟩
    have hsg := splice_seg' (cs := cs) (dc := dc) (off := j * ssz E.fl sub) (by omega)
    rw [z2] at hsg
    rw [Nat.add_zero, hsg]
    exact repSB_out z3
  have hP8 : RP ⟨E.N, E.ver, E.flex, E.fl, E.rr, none⟩ ys 0 sub a8 w1 O R b (j * ssz E.fl sub) ⟨dfltL sub, []⟩ := ⟨g8, AtE.of hat rfl, hOb, hne⟩
  refine wp_mono (h a8 w1 O R b (j * ssz E.fl sub) st ⟨dfltL sub, []⟩ (hB8.st none) hP8 (fresh0 sub)) ?_
  intro e a9 w9 hq
  cases e <;> try exact hq.elim
  · obtain ⟨hk, hc, hrest, st1, s1', hs1, ha1, hstp, hl, _⟩ := hq
    obtain ⟨e1, e2⟩ := hstp.part
    obtain ⟨cs9, h91, h92, h93⟩ := hrest _ _ hb1
    refine ⟨hk8.trans (hk.mono fun t ht => ⟨by have := ht.1; omega, ht.2⟩), (hc1.mono fun _ _ h => Or.inr h).trans hc fun _ _ h => h, by rw [e1] at hs1; exact hs1, by rw [e1] at hl; exact hl, cs9, s1'.d, h91, by rw [h92, hl1], fun k hk' => ?_, ?_, e2⟩
    · rw [h93 k (by omega)]
      rcases hk' with hk' | hk'
      · exact zaO (by omega) (by omega)
      · exact zaV (by omega) (by omega)
    · obtain ⟨cs0, T0, q1, q2, q3⟩ := ha1.at rfl
      obtain ⟨rfl, _⟩ := q1.inj h91
      rw [Nat.add_zero] at q3
      exact ⟨s1', rfl, q3⟩
  · obtain ⟨f1, f2, f3, f4⟩ := hq
    refine ⟨f1, f2, ?_, (hc1.mono fun k _ h => by rw [h]; exact hOb : Chg O w w1).trans f4 fun _ _ h => h⟩
    cases st with
    | none => rfl
    | some bs =>
      rw [Option.bind_some] at f3 ⊢
      show (decPart E.flex E.ver sub bs).map _ = none
      rw [part_sem]
      have f3' : semL E sub 0 (tlP E sub) ⟨dfltL sub, []⟩ bs = none := f3
      rw [f3']; rfl
abbrev kfR (of : K) : Fld := .mk of 0 (-1) (-1) (-1) 0 .bool []
theorem repK_kfR {w : World} {G : Nat → Prop} {fl : Bool} {of : K} {d : D} {vs : List Value} (h1 : of ≠ .struct) (h2 : of ≠ .list) (h : RepF w G fl (kfR of) d vs) : RepK w G of d vs := by
  unfold kfR at h
  cases of <;> first | exact absurd rfl h1 | exact absurd rfl h2 | (unfold RepF at h; exact h) | (unfold RepF at h; dsimp only at h; rw [if_pos (by decide)] at h; exact h)
theorem el_val {zc : List Value} (hty : (decide (of ≠ .struct) && decide (of ≠ .list) && decide (ksz of = 1) && sliceB Tryd.prog ty 1 && sizeB Tryd.prog tyE 1) = true) (h : RvC E m x (kfR of) (rK of E.flex) c)
    (s1 : rsl E m [t1, t2, t3, t4] [E.rr, aS, iS] = true) (s2 : [t1, t2, t3, t4].all (fun t => decide (t ≠ x)) = true) :
    ElC E m aS iS (ksz of) (oneR E of sub) (repR E of sub) zc
      (.seq c (.region r0 #[⟨some t1, .move (.tmp aS), y0, q0, e0, none⟩, ⟨some t2, .move (.tmp iS), y1, q1, e1, none⟩, ⟨some t3, .move (.tmp x), y2, q2, e2, none⟩, ⟨some t4, .indexAddr ty (.tmp t1) (.tmp t2), y3, q3, e3, none⟩, ⟨none, .store tyE (.tmp t4) (.tmp t3), y4, q4, e4, none⟩] false)) := by
  simp only [Bool.and_eq_true, decide_eq_true_eq, List.all_cons, List.all_nil, Bool.and_true] at hty s2
  obtain ⟨⟨⟨⟨o1, o2⟩, o3⟩, o4⟩, o5⟩ := hty
  obtain ⟨hm, hw, hr, hnd⟩ := zau s1
  have hnr := nodup_rev hnd
  simp only [List.reverse_cons, List.reverse_nil, List.nil_append, List.cons_append, List.mem_cons, List.not_mem_nil, or_false, List.nodup_cons, not_or, List.nodup_nil, and_true, not_false_eq_true] at hnr
  simp only [List.mem_cons, List.not_mem_nil, or_false, forall_eq_or_imp, forall_eq, List.nodup_cons, not_or, List.nodup_nil, and_true, not_false_eq_true] at hw hnd hr
  have e1 : oneR E of sub = rK of E.flex := by
    funext bs
    unfold oneR
    cases of <;> first | exact absurd rfl o1 | rfl
  have e2 : repR E of sub = fun w G x vs => RepK w G of x vs := by
    funext w G x vs
    unfold repR
    cases of <;> first | exact absurd rfl o1 | rfl
  rw [e1, e2, o3]
  intro a w O R b j n cap st cs Tb hB hOb hne ga gi hj hb hlen hseg
  have nA : ∀ t, m ≤ t → ¬ t = aS ∧ ¬ t = iS := fun t ht => by have := hr.2.1.1; have := hr.2.2.1; omega
  refine wp_seq (wp_mono (h a w O R st hB) ?_)
  intro e a1 w1 hq
  cases e <;> try exact hq.elim
  obtain ⟨q1, q2, q3, q4, d, v, q5, q6, q7, q8, q9⟩ := hq
  have hN : a1.tmps.size = E.N := q1.size.trans hB.ok.1
  have ga1 := (q1.slot _ hr.2.1).trans ga
  have gi1 := (q1.slot _ hr.2.2).trans gi
  have hb1 : Blk w1 b cs Tb := hb.chg q2 fun e => hne e.symm
  have ev : ∀ {d t : Nat} {a : Act} {v : Value}, d < a.tmps.size → get (a.put (some d) v) t = if d = t then v else get a t := fun h => get_put h
  refine zai ?_
  refine zal ?_
  rw [zac, ga1]
  refine zal ?_
  rw [zac, ev (by rw [hN]; exact hw.1.2.1), if_neg (nA t1 hw.1.2.2).2, gi1]
  refine zal ?_
  rw [zac, ev (by rw [zae, hN]; exact hw.2.1.2.1), if_neg s2.2.1, ev (by rw [hN]; exact hw.1.2.1), if_neg s2.1, q5]
  refine wl_indexAddr (b := b) (o := 0) (k := .i32) (i := j) (len := n) (cap := cap) o4 (by simp only [zac, ev, zae, hN, hw, hnd, hnr, if_true, if_false]) (by simp only [zac, ev, zae, hN, hw, hnd, hnr, if_true, if_false]) hj ?_
  refine zaX (b := b) (o := 0 + j * 1) (n := 1) (v := v) o5 (by simp only [zac, ev, zae, hN, hw, hnd, hnr, if_true, if_false]) (by simp only [zac, ev, zae, hN, hw, hnd, hnr, if_true, if_false]) hb1 (by rw [q6]; rfl) (by intro u hu; rw [q6] at hu; simp only [List.mem_singleton] at hu; subst hu; exact q7) (by omega) fun w2 hb2 hc2 => ?_
  rw [q6, Nat.zero_add] at hb2
  refine zah ?_
  have hX : ∀ k, ¬ O k → k < w1.heap.size → ¬ k = b := fun k hk _ e => hk (e ▸ hOb)
  have st2 : Stay w1 w2 (fun g => ¬ O g) (fun g => ¬ O g) := Stay.of hc2 hX
  have hls : j * 1 + ([v] : List Value).length ≤ cs.length := by simp only [List.length_singleton]; omega
  refine ⟨(((q1.put hw.1.1 _).put hw.2.1.1 _).put hw.2.2.1.1 _).put hw.2.2.2.1 _, (q2.mono fun _ _ h => Or.inl h).trans (hc2.mono fun _ _ h => Or.inr h) fun _ _ h => h, q3.stay st2 (hc2.block R q3.lt hne), q4, _, d, hb2, zaG hls, fun k hk => ?_, ?_, q9⟩
  · rcases hk with hk | hk
    · exact zaO hls (by omega)
    · exact zaV hls (by simp only [List.length_singleton]; omega)
  · have := splice_seg hls
    simp only [List.length_singleton] at this
    show RepK w2 _ of d (((zas cs (j * 1) [v]).drop (j * 1)).take 1)
    rw [this]
    exact (repK_kfR o1 o2 q8).stay st2
theorem el_pre {zc : List Value} {one : Bs → Option (D × Bs)} {rep : Rep} (h : ElC E m aS iS sz one rep zc c) (s1 : rsl E m [t1] [aS, iS] = true) : ElC E m aS iS sz one rep zc (.seq (.region r0 #[⟨some t1, .assign (.const z), y0, q0, e0, none⟩] false) c) := by
  obtain ⟨hm, hw, hr, hnd⟩ := zau s1
  simp only [List.mem_cons, List.not_mem_nil, or_false, forall_eq_or_imp, forall_eq] at hw hr
  intro a w O R b j n cap st cs Tb hB hOb hne ga gi hj hb hlen hseg
  refine wp_seq_k fun K hK => ?_
  refine zai ?_
  refine zak ?_
  refine zah (hK _ _ ?_)
  have hk : zam (RS m) a (a.put (some t1) (a.eval (.const z))) := (zam.refl _ _).put hw.1 _
  refine wp_mono (h _ w O R b j n cap st cs Tb (hB.next hm hk (Chg.refl (fun _ => False) _) (fun _ h => h.elim) hB.rs (Nat.le_refl _)) hOb hne ((hk.slot _ hr.1).trans ga) ((hk.slot _ hr.2).trans gi) hj hb hlen hseg) ?_
  intro e a1 w1 hq
  cases e <;> try exact hq
  exact ⟨hk.trans hq.1, hq.2⟩
end
end Go.Proofs.YtojpodeljpfgaabDoor
namespace Go.Proofs.YtojpodeljpfgaabDoor
set_option linter.all false
open Go.RowKit
set_option maxRecDepth 10000
set_option maxHeartbeats 2000000
section
variable {y0 y1 y2 y3 y4 y5 y6 y7 y8 y9 y10 y11 y12 y13 y14 y15 y16 y17 y18 y19 y20 y21 y22 y23 y24 y25 y26 y27 y28 y29 y30 y31 y32 y33 y34 y35 y36 y37 y38 y39 : TypeId} {q0 q1 q2 q3 q4 q5 q6 q7 q8 q9 q10 q11 q12 q13 q14 q15 q16 q17 q18 q19 q20 q21 q22 q23 q24 q25 q26 q27 q28 q29 q30 q31 q32 q33 q34 q35 q36 q37 q38 q39 : String} {e0 e1 e2 e3 e4 e5 e6 e7 e8 e9 e10 e11 e12 e13 e14 e15 e16 e17 e18 e19 e20 e21 e22 e23 e24 e25 e26 e27 e28 e29 e30 e31 e32 e33 e34 e35 e36 e37 e38 e39 : Array Edge} {r0 r1 r2 r3 r4 r5 : Nat}
variable {r6 r7 r8 r9 r10 r11 r12 r13 : Nat}
variable {E : REnv} {m mB sS k0 i I x y ys aS iS lS vS t1 t2 t3 t4 t5 t6 t7 t8 t9 t10 t11 t12 t13 t14 t15 t16 t17 w1' w2' w3' w4' w5' u1 u2 u3 u4 u5 v1 v2 v3 v4 b1 b2 ug uo uc ui : Nat} {fs sub : List Fld} {pre : S → Prop} {c c1 c2 body cl cn cr : Code} {us us2 us3 : Array TypeId} {fn : FuncId} {T ty ti idx off ua uoT tyV tyE sz : Nat} {a1 a2 a3 a4 a5 : Int} {of : K} {z : Value} {f : Fld} {sem : Bs → Option (D × Bs)} {tl semS : Sem}
theorem rf_listX (hf : fs[i]? = some (.mk .list a1 a2 a3 a4 a5 of sub)) (hF : (decide (fsz E.fl (.mk .list a1 a2 a3 a4 a5 of sub) = 1) && zaR Tryd.prog T idx (k0 + foff E.fl fs i) 1 && scalB Tryd.prog tyV) = true) (hl : RnC E lS lS cl)
    (s1 : rsl E m [w1', w2', w3', w4', vS, w5', aS, lS] [sS, E.rr] = true) (s2 : (decide (aS < lS) && decide (aS ≠ 6) && decide (m ≤ lS)) = true)
    (h : ∀ {a0 a : Act} {w0 w : World} {O : Nat → Prop} {R B p : Nat} {st : Option Bs} {s : S} {L : Int}, RB E a0 w0 O R st → RP E sS k0 fs a0 w0 O R B p s → zam (RS m) a0 a → Chg (fun k => k = R) w0 w →
      RdS w (fun g => ¬ O g) R ((st.bind (rLen E.flex)).map (·.2)) → stLen ((st.bind (rLen E.flex)).map (·.2)) ≤ stLen st → get a lS = .int .i32 L → (∀ y, st.bind (rLen E.flex) = some y → L = y.1) → get a aS = .slice none 0 0 →
      cr.wp Tryd.prog (RdQ E m k0 fs (i + 1) (semSet i (decF E.flex E.ver (.mk .list a1 a2 a3 a4 a5 of sub))) a0 w0 O R B p st s) a w) :
    RdC E m sS k0 fs (i + 1) (Fresh fs i) (semSet i (decF E.flex E.ver (.mk .list a1 a2 a3 a4 a5 of sub)))
      (.seq (.region r0 #[⟨some w1', .move (.tmp sS), y0, q0, e0, none⟩, ⟨some w2', .nilCheck (.tmp w1'), y1, q1, e1, none⟩, ⟨some w3', .fieldAddr T (.tmp w2') idx, y2, q2, e2, none⟩, ⟨some w4', .load tyV (.tmp w3'), y3, q3, e3, none⟩, ⟨some vS, .assign (.tmp w4'), y4, q4, e4, none⟩] false)
        (.seq (.region r1 #[⟨some w5', .move (.tmp vS), y5, q5, e5, none⟩, ⟨some aS, .assign (.tmp w5'), y6, q6, e6, none⟩] false)
          (.seq (.region r2 #[⟨some lS, .assign (.const (.int .i32 0)), y7, q7, e7, none⟩] false) (.seq cl cr)))) := by
  simp only [Bool.and_eq_true, decide_eq_true_eq] at hF s2
  obtain ⟨⟨f1, f2⟩, f3⟩ := hF
  obtain ⟨hm, hw, hr, hnd⟩ := zau s1
  have hnr := nodup_rev hnd
  simp only [List.reverse_cons, List.reverse_nil, List.nil_append, List.cons_append, List.mem_cons, List.not_mem_nil, or_false, List.nodup_cons, not_or, List.nodup_nil, and_true, not_false_eq_true] at hnr
  simp only [List.mem_cons, List.not_mem_nil, or_false, forall_eq_or_imp, forall_eq, List.nodup_cons, not_or, List.nodup_nil, and_true, not_false_eq_true] at hw hnd hr
  intro a w O R B p st s hB hP hfr
  have hN := hB.ok.1
  have ev : ∀ {d t : Nat} {a : Act} {v : Value}, d < a.tmps.size → get (a.put (some d) v) t = if d = t then v else get a t := fun h => get_put h
  obtain ⟨d', cs, Tb, k1, k2, k3, k4⟩ := hP.at_.field hf
  have hd := hfr i _ (Nat.le_refl _) hf
  rw [hd] at k1
  have hdf : dfltF (.mk .list a1 a2 a3 a4 a5 of sub) = .arr true [] := by unfold dfltF; rfl
  rw [hdf] at k1
  cases k1
  rw [f1] at k3 k4
  have hv : cs[p + k0 + foff E.fl fs i]? = some (cs[p + k0 + foff E.fl fs i]'(by omega)) := by simp
  obtain ⟨val, hval⟩ : ∃ val, cs[p + k0 + foff E.fl fs i]? = some val := ⟨_, hv⟩
  have hseg : (cs.drop (p + k0 + foff E.fl fs i)).take 1 = [val] := by
    rw [List.drop_eq_getElem_cons (by omega), List.take_succ_cons, List.take_zero]
    congr 1
    have := List.getElem?_eq_some_iff.1 hval
    exact this.2
  rw [hseg] at k4
  have hval2 : val = .slice none 0 0 := by
    unfold RepF at k4
    obtain ⟨oa, cap, g1, ⟨g2, g3⟩, _⟩ := k4
    simp only [List.cons.injEq, and_true] at g1
    cases oa with
    | none => rw [g1, g3 rfl]; rfl
    | some _ => cases g2
  subst hval2
  refine wp_seq_k fun K hK => ?_
  refine zai ?_
  refine zal ?_
  rw [zac, hP.pt]
  refine zaI (p := ⟨B, p, none⟩) (by simp only [zac, ev, zae, hN, hw, hnd, hnr, if_true, if_false]) ?_
  refine zaE (b := B) (o := p) f2 (by simp only [zac, ev, zae, hN, hw, hnd, hnr, if_true, if_false]) ?_
  refine wl_load (b := B) (o := p + (k0 + foff E.fl fs i)) f3 (by simp only [zac, ev, zae, hN, hw, hnd, hnr, if_true, if_false]) k2 (v := .slice none 0 0) (by rw [← Nat.add_assoc]; exact hval) ?_
  refine zak ?_
  simp only [zac, ev, zae, hN, hw, if_true]
  refine zah (hK _ _ ?_)
  clear hK K
  refine wp_seq_k fun K hK => ?_
  refine zai ?_
  refine zal ?_
  simp only [zac, ev, zae, hN, hw, if_true]
  refine zak ?_
  simp only [zac, ev, zae, hN, hw, if_true]
  refine zah (hK _ _ ?_)
  clear hK K
  refine wp_seq_k fun K hK => ?_
  refine zai ?_
  refine zak ?_
  simp only [zaf]
  refine zah (hK _ _ ?_)
  clear hK K
  obtain ⟨a8, ha8⟩ : ∃ a8, a8 = ((((((((a.put (some w1') (.pointer (some ⟨B, p, none⟩))).put (some w2') (.pointer (some ⟨B, p, none⟩))).put (some w3') (.pointer (some ⟨B, p + (k0 + foff E.fl fs i), none⟩))).put (some w4') (.slice none 0 0)).put (some vS) (.slice none 0 0)).put (some w5') (.slice none 0 0)).put (some aS) (.slice none 0 0)).put (some lS) (.int .i32 0)) := ⟨_, rfl⟩
  rw [← ha8]
  have hk8 : zam (RS m) a a8 := by
    rw [ha8]
    exact ((((((((zam.refl _ _).put hw.1.1 _).put hw.2.1.1 _).put hw.2.2.1.1 _).put hw.2.2.2.1.1 _).put hw.2.2.2.2.1.1 _).put hw.2.2.2.2.2.1.1 _).put hw.2.2.2.2.2.2.1.1 _).put hw.2.2.2.2.2.2.2.1 _
  have ga8 : get a8 aS = .slice none 0 0 := by rw [ha8, zab (by omega), zaa (by simp only [zae, hN]; exact hw.2.2.2.2.2.2.1.2.1)]
  clear ha8
  have hB8 := hB.next hm hk8 (Chg.refl (fun _ => False) _) (fun _ h => h.elim) hB.rs (Nat.le_refl _)
  refine wp_seq (wp_mono (hl a8 w O R st hB8) ?_)
  intro e a9 w9 hq
  cases e <;> try exact hq.elim
  obtain ⟨q1, q2, q3, q4, L, q5, q6⟩ := hq
  exact h hB hP (hk8.trans (q1.mono fun t ht => ⟨by have := ht.1; omega, ht.2⟩)) q2 q3 q4 q5 q6 ((q1.slot _ ⟨s2.1.1, s2.1.2⟩).trans ga8)
end
end Go.Proofs.YtojpodeljpfgaabDoor
