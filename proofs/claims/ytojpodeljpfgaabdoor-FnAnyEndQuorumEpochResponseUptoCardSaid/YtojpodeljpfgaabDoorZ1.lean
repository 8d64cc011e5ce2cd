import Derived.Test.YtojpodeljpfgaabDoorZW
import Derived.Test.YtojpodeljpfgaabDoorZT
import Derived.Test.YtojpodeljpfgaabDoorZE
import Derived.ChangeKeysEq
import Derived.ScopeJumps
/-
What the proofs of the laws rest on, part Z1.
-/
namespace Go.Proofs.YtojpodeljpfgaabDoor
set_option linter.all false
open Go.RowKit
set_option maxRecDepth 10000
set_option maxHeartbeats 4000000
theorem encKnown_nil {flex : Bool} {ver : Int} : ∀ {fs : List Fld} {ds : List D}, (∀ (j : Nat) (g : Fld), fs[j]? = some g → g.tag < 0) → zao flex ver fs ds = (0, [])
  | [], _, _ => by simp [zao]
  | f :: r, [], _ => by simp [zao]
  | f :: r, d :: ds, h => by
    have h0 := h 0 f rfl
    rw [zao, encKnown_nil (fs := r) (ds := ds) fun j g hg => h (j + 1) g hg]
    dsimp only
    rw [if_neg (fun x => by omega)]
theorem encKnown_at {flex : Bool} {ver : Int} : ∀ {fs : List Fld} {ds : List D} {i : Nat} {f : Fld} {d : D}, fs[i]? = some f → ds[i]? = some d → f.tag = 0 → (∀ (j : Nat) (g : Fld), fs[j]? = some g → j ≠ i → g.tag < 0) →
    zao flex ver fs ds = if zaF d = true then (1, zaZ 0 ++ (zaZ ((encF flex ver f d).length % 4294967296) ++ encF flex ver f d)) else (0, [])
  | [], _, i, _, _, h, _, _, _ => by simp at h
  | f :: r, [], i, _, _, _, h, _, _ => by simp at h
  | f :: r, d :: ds, 0, f', d', hf, hd, ht, ho => by
    simp only [List.getElem?_cons_zero, Option.some.injEq] at hf hd
    subst hf; subst hd
    rw [zao, encKnown_nil (fs := r) (ds := ds) fun j g hg => ho (j + 1) g hg (by omega)]
    dsimp only
    by_cases hu : zaF d = true
    · rw [if_pos ⟨by omega, hu⟩, if_pos hu, ht, List.append_nil]; rfl
    · rw [if_neg (fun x => hu x.2), if_neg hu]
  | f :: r, d :: ds, i + 1, f', d', hf, hd, ht, ho => by
    have h0 := ho 0 f rfl (by omega)
    rw [zao, encKnown_at (fs := r) (ds := ds) (i := i) hf hd ht fun j g hg hj => ho (j + 1) g hg (by omega)]
    rw [if_neg (fun x => by omega)]
theorem kn0B_enc {fs : List Fld} {ds : List D} {i : Nat} {f : Fld} {d : D} {flex : Bool} {ver : Int} (hf : fs[i]? = some f) (hd : ds[i]? = some d) (h : kn0B fs i = true) :
    zao flex ver fs ds = if zaF d = true then (1, zaZ 0 ++ (zaZ ((encF flex ver f d).length % 4294967296) ++ encF flex ver f d)) else (0, []) := by
  unfold kn0B at h
  rw [hf] at h
  simp only [Bool.and_eq_true, decide_eq_true_eq, List.all_eq_true, Bool.or_eq_true, List.mem_range] at h
  refine encKnown_at hf hd h.1 fun j g hg hj => ?_
  rcases h.2 j (List.getElem?_eq_some_iff.1 hg).1 with e | e
  · exact absurd e hj
  · rw [hg] at e; exact of_decide_eq_true e
theorem u32_i64 (x : Int) : IntKind.u32.wrap (IntKind.i64.wrap x) = IntKind.u32.wrap x := by
  rw [IntKind.wrap_u32, IntKind.wrap_i64, IntKind.wrap_u32]
  have e : (4294967296 : Int) ∣ 18446744073709551616 := ⟨4294967296, by decide⟩
  have h := Int.emod_emod_of_dvd (x + 9223372036854775808) e
  have h2 : (9223372036854775808 : Int) % 4294967296 = 0 := by decide
  omega
def TeI (w : World) (v te : Value) (n : Nat) : Prop := (n = 0 ∧ te = .slice none 0 0) ∨ (n = 1 ∧ ∃ k cap cs T, te = .slice (some ⟨k, 0, none⟩) 1 cap ∧ Blk w k cs T ∧ cs[0]? = some (eU 0) ∧ v.ownBlock ≠ some k)
theorem TeI.app {w w' : World} {v v' te : Value} {n base : Nat} {bs : Bs} (h : TeI w v te n) (ha : App eB w base v bs v' w') : TeI w' v' te n := by
  rcases h with h | ⟨h1, k, cap, cs, T, h2, h3, h4, h5⟩
  · exact .inl h
  · refine .inr ⟨h1, k, cap, cs, T, h2, h3.chg ha.chg h5, h4, ?_⟩
    rcases ha.blk with e | ⟨g, e, hg⟩
    · rw [e]; exact h5
    · rw [e]; intro e2; cases e2; have := h3.lt; omega
theorem TeI.len {w : World} {v te : Value} {n : Nat} (h : TeI w v te n) : ∃ oa cap, te = .slice oa n cap := by
  rcases h with ⟨rfl, rfl⟩ | ⟨rfl, k, cap, cs, T, rfl, _⟩
  · exact ⟨_, _, rfl⟩
  · exact ⟨_, _, rfl⟩
def TkC (E : WEnv) (m k te sS k0 : Nat) (fs : List Fld) (s : S) (b : Bool) (c : Code) : Prop :=
  ∀ (a : Act) (w : World) (base : Nat) (v : Value) (bs : Bs), WOK E a → get a 1 = v → Own eB w base v bs → base ≤ w.heap.size → PrS E sS k0 fs s a w base → get a te = .slice none 0 0 →
    c.wp Tryd.prog (fun e a' w' => e = .normal ∧ zam (WS m E.T k) a a' ∧ get a' 1 = v ∧ Chg (fun _ => False) w w' ∧ TeI w' v (get a' te) (if b then 1 else 0)) a w
def LpC (E : WEnv) (m k te sS k0 : Nat) (fs : List Fld) (s : S) (n : Nat) (enc : Bs) (c : Code) : Prop :=
  ∀ (a : Act) (w : World) (base : Nat) (v : Value) (bs : Bs), WOK E a → get a 1 = v → Own eB w base v bs → base ≤ w.heap.size → PrS E sS k0 fs s a w base → TeI w v (get a te) n → bs.length + (if n = 1 then enc else []).length ≤ LIM →
    c.wp Tryd.prog (WQ (WS m E.T k) a w base v (bs ++ if n = 1 then enc else [])) a w
section
variable {E : WEnv} {m k : Nat} {y0 y1 y2 y3 y4 y5 y6 y7 y8 y9 y10 y11 y12 y13 y14 y15 y16 y17 y18 y19 y20 y21 y22 y23 y24 y25 y26 y27 y28 y29 y30 y31 y32 y33 y34 y35 y36 y37 y38 y39 : TypeId} {q0 q1 q2 q3 q4 q5 q6 q7 q8 q9 q10 q11 q12 q13 q14 q15 q16 q17 q18 q19 q20 q21 q22 q23 q24 q25 q26 q27 q28 q29 q30 q31 q32 q33 q34 q35 q36 q37 q38 q39 : String} {e0 e1 e2 e3 e4 e5 e6 e7 e8 e9 e10 e11 e12 e13 e14 e15 e16 e17 e18 e19 e20 e21 e22 e23 e24 e25 e26 e27 e28 e29 e30 e31 e32 e33 e34 e35 e36 e37 e38 e39 : Array Edge} {r0 r1 r2 r3 r4 r5 : Nat}
variable {sS k0 te : Nat} {fs : List Fld} {s : S}
theorem wk_tags {tk i : Nat} {f : Fld} {c1 c2 c3 c4 : Code} (hfl : E.fl = true) (hf : fs[i]? = some f) (hk : kn0B fs i = true) (hsl : E.sl m k [tk, te] [sS] = true) (hm : decide (m ≤ te) = true)
    (h1 : ∀ d, s.ds[i]? = some d → TkC E m k te sS k0 fs s (zaF d) c1)
    (h2 : ∀ n, n ≤ 1 → WrC E (te + 1) k c2 (fun a w base => PrS E sS k0 fs s a w base ∧ ∃ oa cap, get a te = .slice oa n cap) (zaZ ((n + s.tags.length) % 4294967296)))
    (h3 : ∀ d, s.ds[i]? = some d → LpC E m k te sS k0 fs s (if zaF d then 1 else 0) (zaZ 0 ++ (zaZ ((encF E.flex E.ver f d).length % 4294967296) ++ encF E.flex E.ver f d)) c3)
    (h4 : WrC E m k c4 (PrS E sS k0 fs s) (zaJ s.tags)) :
    WrC E m k (.seq (.region r0 #[⟨some tk, .move (.tmp E.sF), y0, q0, e0, none⟩] false) (.cond (.tmp tk) (.seq (.region r1 #[⟨some te, .assign (.const (.slice none 0 0)), y1, q1, e1, none⟩] false) (.seq c1 (.seq c2 (.seq c3 c4)))) .skip)) (PrS E sS k0 fs s) (tagsEnc E fs s) := by
  obtain ⟨hE, hfr, hrd, hnd⟩ := sl_out hsl
  have hm := of_decide_eq_true hm
  simp only [List.nodup_cons, List.mem_cons, List.mem_append, List.cons_append, List.nil_append, List.not_mem_nil, or_false, not_or, List.nodup_nil, and_true, not_false_eq_true] at hnd
  simp only [List.mem_cons, List.not_mem_nil, or_false, forall_eq_or_imp, forall_eq] at hfr hrd
  have nTe : te ≠ 1 := by intro e; simp [e] at hnd
  unfold tagsEnc
  refine wr_ifflex hfl (fun hx => ?_) (PrS.put (by intro e; simp [e] at hnd)) ⟨hE, hfr.2.1, by intro e; simp [e] at hnd⟩
  intro a w base v bs hok hv hown hb hpre hlim
  obtain ⟨d, hd⟩ := hpre.at_d hf
  have he := kn0B_enc (flex := E.flex) (ver := E.ver) hf hd hk
  have hk0 : (zao E.flex E.ver fs s.ds).1 = (if zaF d = true then 1 else 0) := by rw [he]; by_cases hu : zaF d = true <;> simp [hu]
  have hk1 : (zao E.flex E.ver fs s.ds).2 = (if (if zaF d = true then 1 else 0) = 1 then (zaZ 0 ++ (zaZ ((encF E.flex E.ver f d).length % 4294967296) ++ encF E.flex E.ver f d)) else []) := by rw [he]; by_cases hu : zaF d = true <;> simp [hu]
  unfold zaM at hlim ⊢
  rw [hk0, hk1] at hlim ⊢
  clear hk0 hk1 he
  have g1 := h1 d hd
  have g3 := h3 d hd
  have hn1 : (if zaF d = true then 1 else 0) ≤ 1 := by split <;> omega
  obtain ⟨n, hn⟩ : ∃ n, n = if zaF d = true then 1 else 0 := ⟨_, rfl⟩
  rw [← hn] at hn1 hlim ⊢ g3
  generalize (zaZ 0 ++ (zaZ ((encF E.flex E.ver f d).length % 4294967296) ++ encF E.flex E.ver f d)) = en at *
  rw [List.length_append, List.length_append] at hlim
  refine wp_seq_k fun K hK => ?_
  refine zai ?_
  refine zak ?_
  refine zah (hK _ _ ?_)
  clear hK K
  have hk1 : zam (WS m E.T k) a (a.put (some te) (.slice none 0 0)) := (zam.refl _ _).put hfr.2.2.1 _
  have hN := hok.1
  refine wp_seq (wp_mono (g1 _ w base v bs (hok.keep hk1 hE.1 hE.2) ((zab nTe).trans hv) hown hb (PrS.put (by intro e; simp [e] at hnd) _ _ _ _ hpre) (zaa (by rw [hN]; exact hfr.2.2.2))) ?_)
  rintro e a2 w2 ⟨rfl, hk2, hv2, hc2, hte⟩
  rw [← hn] at hte
  have hka := hk1.trans hk2
  have hown2 := hown.chg hc2 fun _ _ h => h
  have hb2 := Nat.le_trans hb hc2.size
  have hpre2 := PrS.stable hrd _ _ _ _ _ hpre hka (hc2.mono fun _ _ h => h.elim) hb
  refine wp_seq (wp_mono (h2 n hn1 a2 w2 base v bs (hok.keep hka hE.1 hE.2) hv2 hown2 hb2 ⟨hpre2, hte.len⟩ (by omega)) ?_)
  intro e a3 w3 hq
  cases e <;> try exact hq.elim
  obtain ⟨hk3, happ3⟩ := hq
  have hkb := hka.trans (hk3.mono fun t ht => ht.mono (by omega) (Nat.le_refl _))
  have hte3 : get a3 te = get a2 te := hk3.slot te (.inl ⟨by omega, nTe⟩)
  have hc3 := happ3.chgFrom hown2
  refine wp_seq (wp_mono (g3 a3 w3 base _ _ (hok.keep hkb hE.1 hE.2) rfl happ3.own (Nat.le_trans hb2 hc3.size) (PrS.stable hrd _ _ _ _ _ hpre2 (hk3.mono fun t ht => ht.mono (by omega) (Nat.le_refl _)) hc3 hb2) (by rw [hte3]; exact hte.app happ3) (by rw [List.length_append]; omega)) ?_)
  intro e a4 w4 hq
  cases e <;> try exact hq.elim
  obtain ⟨hk4, happ4⟩ := hq
  have hc4 := happ4.chgFrom happ3.own
  have hb3 := Nat.le_trans hb2 hc3.size
  refine wp_mono (h4 a4 w4 base _ _ (hok.keep (hkb.trans hk4) hE.1 hE.2) rfl happ4.own (Nat.le_trans hb3 hc4.size) (PrS.stable hrd _ _ _ _ _ (PrS.stable hrd _ _ _ _ _ hpre2 (hk3.mono fun t ht => ht.mono (by omega) (Nat.le_refl _)) hc3 hb2) hk4 hc4 hb3) (by rw [List.length_append, List.length_append]; omega)) ?_
  intro e a5 w5 hq
  cases e <;> try exact hq.elim
  obtain ⟨hk5, happ5⟩ := hq
  refine ⟨(hkb.trans hk4).trans hk5, ?_⟩
  have hfin := (happ3.trans happ4).trans happ5
  rw [List.append_assoc, List.append_assoc] at hfin
  exact ⟨hfin.own, (hc2.mono fun _ _ h => h.elim).trans hfin.chg fun _ _ h => h, by
    rcases hfin.blk with h | ⟨g, h1, h2⟩
    · exact .inl h
    · exact .inr ⟨g, h1, Nat.le_trans hc2.size h2⟩⟩
theorem wk_len {t1 t2 t3 t4 t5 t6 t7 t8 t9 t10 T idx sl du off n : Nat} {us us2 : Array TypeId}
    (hfl : E.fl = true) (hF : zaR Tryd.prog T idx off 1 = true) (ho : off = k0 + lsz true fs) (hcv : (someB Tryd.prog sl && isIntT Tryd.prog du) = true) (hdu : kindOf Tryd.prog du = .u32) (hsl2 : slB Tryd.prog tUs = true)
    (hsl : E.sl (te + 1) k [t1, t2, t3, t4, t5, t6, t7, t8, t9, t10] [sS] = true) (hte : ∀ t ∈ [t1, t2, t3, t4, t5, t6, t7, t8, t9, t10], t ≠ te) :
    WrC E (te + 1) k (.region r0 #[⟨some t1, .move (.tmp 1), y0, q0, e0, none⟩, ⟨some t2, .move (.tmp te), y1, q1, e1, none⟩, ⟨some t3, .call { callee := .builtin .len, args := #[.tmp t2], argTypes := #[tUs] }, y2, q2, e2, none⟩, ⟨some t4, .move (.tmp sS), y3, q3, e3, none⟩, ⟨some t5, .nilCheck (.tmp t4), y4, q4, e4, none⟩, ⟨some t6, .fieldAddr T (.tmp t5) idx, y5, q5, e5, none⟩,
        ⟨some t7, .call { callee := .value (.func 22), args := #[.tmp t6], argTypes := us }, y6, q6, e6, none⟩, ⟨some t8, .binOp .add sl (.tmp t3) (.tmp t7) sl, y7, q7, e7, none⟩, ⟨some t9, .convert sl du (.tmp t8), y8, q8, e8, none⟩,
        ⟨some t10, .call { callee := .value (.func 21), args := #[.tmp t1, .tmp t9], argTypes := us2 }, y9, q9, e9, none⟩, ⟨some 1, .assign (.tmp t10), y10, q10, e10, none⟩] false)
      (fun a w base => PrS E sS k0 fs s a w base ∧ ∃ oa cap, get a te = .slice oa n cap) (zaZ ((n + s.tags.length) % 4294967296)) := by
  obtain ⟨hE, hfr, hrd, hnd⟩ := sl_out hsl
  simp only [List.nodup_cons, List.mem_cons, List.mem_append, List.cons_append, List.nil_append, List.not_mem_nil, or_false, not_or, List.nodup_nil, and_true, not_false_eq_true] at hnd
  simp only [List.mem_cons, List.not_mem_nil, or_false, forall_eq_or_imp, forall_eq, Fre] at hfr hrd hte
  simp only [Bool.and_eq_true] at hcv
  intro a w base v bs hok hv hown hb hpre hlim
  have hN := hok.1
  obtain ⟨⟨B, p, g1, hat, hB⟩, oa, cap, gt⟩ := hpre
  rw [hfl] at hat
  obtain ⟨mm, cs, Tb, k1, k2, k3, hok2⟩ := hat.tags
  rw [show p + k0 + lsz true fs = p + off by omega] at k2
  have hml : (n + s.tags.length) % 4294967296 < 4294967296 := Nat.mod_lt _ (by omega)
  have n1 : t1 ≠ te := hte.1
  have ec : IntKind.u32.wrap (IntKind.i64.wrap ((n : Int) + (s.tags.length : Int))) = (((n + s.tags.length) % 4294967296 : Nat) : Int) := by rw [u32_i64, ← Int.natCast_add]; exact u32_mod _
  refine zai ?_
  refine zal ?_
  refine zal ?_
  simp only [zac, zaf, zag, zaa, zab, zad, ne_eq, zae, hN, hnd, hfr, not_false_eq_true, hv, n1, gt]
  refine wl_len hsl2 (by simp only [zac, zaf, zag, zaa, zab, zad, ne_eq, zae, hN, hnd, hfr, not_false_eq_true, isS]) ?_
  simp only [zac, zaf, zag, zaa, zab, zad, ne_eq, zae, hN, hnd, hfr, not_false_eq_true, lenV]
  refine zal ?_
  simp only [zac, zaf, zag, zaa, zab, zad, ne_eq, zae, hN, hnd, hfr, not_false_eq_true, g1]
  refine zaI (p := ⟨B, p, none⟩) (by simp only [zac, zaf, zag, zaa, zab, zad, ne_eq, zae, hN, hnd, hfr, not_false_eq_true]) ?_
  refine zaE (b := B) (o := p) hF (by simp only [zac, zaf, zag, zaa, zab, zad, ne_eq, zae, hN, hnd, hfr, not_false_eq_true]) ?_
  refine zaH (fun args w => Tryd.call22 args w) (by simp only [List.map_toArray, List.map_cons, List.map_nil]; simp only [zac, zaf, zag, zaa, zab, zad, ne_eq, zae, hN, hnd, hfr, not_false_eq_true]; exact TagsLen_c k1 k2 k3) ?_
  rintro x w1 ⟨rfl, rfl⟩
  refine wl_add (by simp only [zac, zaf, zag, zaa, zab, zad, ne_eq, zae, hN, hnd, hfr, not_false_eq_true, sameK, decide_true]) ?_
  simp only [zac, zaf, zag, zaa, zab, zad, ne_eq, zae, hN, hnd, hfr, not_false_eq_true, add2]
  refine wl_conv hcv.1 hcv.2 (by simp only [zac, zaf, zag, zaa, zab, zad, ne_eq, zae, hN, hnd, hfr, not_false_eq_true, isI]) ?_
  simp only [zac, zaf, zag, zaa, zab, zad, ne_eq, zae, hN, hnd, hfr, not_false_eq_true, cvt, hdu, ec]
  refine wl_callApp (fun args w => Tryd.call21 args w) (zaU ((n + s.tags.length) % 4294967296) hml) (by simp only [List.map_toArray, List.map_cons, List.map_nil]; simp only [zac, zaf, zag, zaa, zab, zad, ne_eq, zae, hN, hnd, hfr, not_false_eq_true]) hown hlim hb trivial ?_
  intro v1 w2 happ
  refine zak ?_
  simp only [zac, zaf, zag, zaa, zab, zad, ne_eq, zae, hN, hnd, hfr, not_false_eq_true]
  refine zah ⟨?_, ?_⟩
  · ((repeat (with_reducible refine zam.put ?_ (by simp only [hfr, not_false_eq_true]) _)); with_reducible exact zam.refl _ _)
  · simp only [zac, zaf, zag, zaa, zab, zad, ne_eq, zae, hN, hnd, hfr, not_false_eq_true]
    exact happ
theorem wk_each {t1 t2 t3 t4 t5 T idx off : Nat} {us : Array TypeId} (hfl : E.fl = true) (hF : zaR Tryd.prog T idx off 1 = true) (ho : off = k0 + lsz true fs) (hsl : E.sl m k [t1, t2, t3, t4, t5] [sS] = true) :
    WrC E m k (.region r1 #[⟨some t1, .move (.tmp sS), y0, q0, e0, none⟩, ⟨some t2, .nilCheck (.tmp t1), y1, q1, e1, none⟩, ⟨some t3, .fieldAddr T (.tmp t2) idx, y2, q2, e2, none⟩, ⟨some t4, .move (.tmp 1), y3, q3, e3, none⟩,
        ⟨some t5, .call { callee := .value (.func 23), args := #[.tmp t3, .tmp t4], argTypes := us }, y4, q4, e4, none⟩, ⟨some 1, .assign (.tmp t5), y5, q5, e5, none⟩] false) (PrS E sS k0 fs s) (zaJ s.tags) := by
  obtain ⟨hE, hfr, hrd, hnd⟩ := sl_out hsl
  simp only [List.nodup_cons, List.mem_cons, List.mem_append, List.cons_append, List.nil_append, List.not_mem_nil, or_false, not_or, List.nodup_nil, and_true, not_false_eq_true] at hnd
  simp only [List.mem_cons, List.not_mem_nil, or_false, forall_eq_or_imp, forall_eq, Fre] at hfr hrd
  intro a w base v bs hok hv hown hb hpre hlim
  have hN := hok.1
  obtain ⟨B, p, g1, hat, hB⟩ := hpre
  rw [hfl] at hat
  obtain ⟨mm, cs, Tb, k1, k2, k3, hok2⟩ := hat.tags
  rw [show p + k0 + lsz true fs = p + off by omega] at k2
  refine zai ?_
  refine zal ?_
  simp only [zac, zaf, zag, zaa, zab, zad, ne_eq, zae, hN, hnd, hfr, not_false_eq_true, g1]
  refine zaI (p := ⟨B, p, none⟩) (by simp only [zac, zaf, zag, zaa, zab, zad, ne_eq, zae, hN, hnd, hfr, not_false_eq_true]) ?_
  refine zaE (b := B) (o := p) hF (by simp only [zac, zaf, zag, zaa, zab, zad, ne_eq, zae, hN, hnd, hfr, not_false_eq_true]) ?_
  refine zal ?_
  simp only [zac, zaf, zag, zaa, zab, zad, ne_eq, zae, hN, hnd, hfr, not_false_eq_true, hv]
  refine zaH (fun args w => Tryd.call23 args w) (R := App eB w base v (bs ++ zaJ s.tags)) ?_ ?_
  · simp only [List.map_toArray, List.map_cons, List.map_nil]; simp only [zac, zaf, zag, zaa, zab, zad, ne_eq, zae, hN, hnd, hfr, not_false_eq_true]
    exact TagsEach_c hok2 k1 k2 k3 hB hown hlim hb
  intro v2 w3 happ2
  refine zak ?_
  simp only [zac, zaf, zag, zaa, zab, zad, ne_eq, zae, hN, hnd, hfr, not_false_eq_true]
  refine zah ⟨?_, ?_⟩
  · ((repeat (with_reducible refine zam.put ?_ (by simp only [hfr, not_false_eq_true]) _)); with_reducible exact zam.refl _ _)
  · simp only [zac, zaf, zag, zaa, zab, zad, ne_eq, zae, hN, hnd, hfr, not_false_eq_true]
    exact happ2
theorem tk_cond {tf u1 u2 u3 : Nat} {b : Bool} {a : Act} {w : World} {base : Nat} {v : Value} {bs : Bs} (hN : a.tmps.size = E.N) (hv : get a 1 = v) (hown : Own eB w base v bs) (hte : get a te = .slice none 0 0) (hb : get a tf = .bool b)
    (hsl : E.sl m k [te, u1, u2, u3] [] = true) :
    (Code.cond (.tmp tf) (.region r0 #[⟨some u1, .move (.tmp te), y0, q0, e0, none⟩, ⟨some u2, .buildSlice tUs 1 #[(0, .const (.int .u32 0))], y1, q1, e1, none⟩, ⟨some u3, .call { callee := .builtin .append, args := #[.tmp u1, .tmp u2], argTypes := #[tUs, tUs] }, y2, q2, e2, none⟩, ⟨some te, .assign (.tmp u3), y3, q3, e3, none⟩] false) .skip).wp Tryd.prog
      (fun e a' w' => e = .normal ∧ zam (WS m E.T k) a a' ∧ get a' 1 = v ∧ Chg (fun _ => False) w w' ∧ TeI w' v (get a' te) (if b then 1 else 0)) a w := by
  obtain ⟨hE, hfr, hrd, hnd⟩ := sl_out hsl
  simp only [List.nodup_cons, List.mem_cons, List.mem_append, List.cons_append, List.nil_append, List.not_mem_nil, or_false, not_or, List.nodup_nil, and_true, not_false_eq_true] at hnd
  simp only [List.mem_cons, List.not_mem_nil, or_false, forall_eq_or_imp, forall_eq, Fre] at hfr
  cases b with
  | false =>
    refine wp_cond_false (by rw [zac]; exact hb) ?_
    exact wp_skip ⟨rfl, zam.refl _ _, hv, Chg.refl _ _, .inl ⟨rfl, hte⟩⟩
  | true =>
    refine wp_cond_true (by rw [zac]; exact hb) ?_
    refine zai ?_
    refine zal ?_
    simp only [zac, zaf, zag, zaa, zab, zad, ne_eq, zae, hN, hnd, hfr, not_false_eq_true, hte]
    refine wl_appU (base := w.heap.size) (n := 0) (k := 0) (v := .slice none 0 0) (xs := []) (by simp only [zac, zaf, zag, zaa, zab, zad, ne_eq, zae, hN, hnd, hfr, not_false_eq_true]) (by simp only [zae, hN]; exact hfr.2.2.2.1.2) (by rw [zaf]; rfl) (World.ownsRow_nil w w.heap.size tU 1) (by omega) (Nat.le_refl _) ?_
    intro u v' w' ha
    refine zak ?_
    simp only [zac, zaf, zag, zaa, zab, zad, ne_eq, zae, hN, hnd, hfr, not_false_eq_true]
    have hc : Chg (fun _ => False) w w' := ha.chg.mono fun _ _ h => by cases h
    refine zah ⟨rfl, ?_, ?_, hc, ?_⟩
    · ((repeat (with_reducible refine zam.put ?_ (by simp only [hfr, not_false_eq_true]) _)); with_reducible exact zam.refl _ _)
    · simp only [zac, zaf, zag, zaa, zab, zad, ne_eq, zae, hN, hnd, hfr, not_false_eq_true, hv]
    · simp only [zac, zaf, zag, zaa, zab, zad, ne_eq, zae, hN, hnd, hfr, not_false_eq_true]
      rcases ha.own.2 with ⟨_, h⟩ | ⟨g, cap, cur, h1, h2, h3, h4, h5, h6, h7⟩
      · cases h
      · refine .inr ⟨rfl, g, cap, cur.toList, tU, h1, by simpa [Blk] using h3, ?_, fun e => ?_⟩
        · have h8 := congrArg (·[0]?) h7
          simp only [Nat.zero_add, Nat.one_mul, List.nil_append, List.getElem?_cons_zero] at h8
          rw [List.getElem?_take_of_lt (by omega)] at h8
          exact h8
        · have := (hown.lt g e).2; omega
end
end Go.Proofs.YtojpodeljpfgaabDoor
namespace Go.Proofs.YtojpodeljpfgaabDoor
set_option linter.all false
open Go.RowKit
set_option maxRecDepth 10000
set_option maxHeartbeats 4000000
section
variable {E : WEnv} {m k : Nat} {y0 y1 y2 y3 y4 y5 y6 y7 y8 y9 y10 y11 y12 y13 y14 y15 y16 y17 y18 y19 y20 y21 y22 y23 y24 y25 y26 y27 y28 y29 y30 y31 y32 y33 y34 y35 y36 y37 y38 y39 : TypeId} {q0 q1 q2 q3 q4 q5 q6 q7 q8 q9 q10 q11 q12 q13 q14 q15 q16 q17 q18 q19 q20 q21 q22 q23 q24 q25 q26 q27 q28 q29 q30 q31 q32 q33 q34 q35 q36 q37 q38 q39 : String} {e0 e1 e2 e3 e4 e5 e6 e7 e8 e9 e10 e11 e12 e13 e14 e15 e16 e17 e18 e19 e20 e21 e22 e23 e24 e25 e26 e27 e28 e29 e30 e31 e32 e33 e34 e35 e36 e37 e38 e39 : Array Edge} {r0 r1 r2 r3 r4 r5 : Nat}
variable {sS k0 te : Nat} {fs : List Fld} {s : S}
theorem wk_loop {u0 u1 u2 u3 u4 w1 w2 w3 w4 w5 ky b1 b2 b3 ti n : Nat} {body : Code} {enc : Bs}
    (hs : sliceB Tryd.prog tUs 1 = true) (hs2 : scalB Tryd.prog tU = true) (hbody : n = 1 → WrC E m (u2 + 1) body (PrS E sS k0 fs s) enc)
    (hsl : E.sl m k [u0, u1, u2, u3, u4, w1, w2, w3, w4, w5, ky] [sS] = true) (hsl2 : E.sl m (u2 + 1) [] [sS, u0, u1, u2] = true) (hk : decide (k ≤ u2 + 1) = true) (hte : ∀ t ∈ [u0, u1, u2], t ≠ te) :
    LpC E m k te sS k0 fs s n enc (.seq (.region r0 #[⟨some u0, .move (.tmp te), y0, q0, e0, none⟩, ⟨some u1, .call { callee := .builtin .len, args := #[.tmp u0], argTypes := #[tUs] }, y1, q1, e1, none⟩, ⟨some u2, .move (.const (.int .i64 0)), y2, q2, e2, none⟩] false)
      (.block b1 (.loop (.seq (.region r1 #[⟨some u3, .binOp .lss ti (.tmp u2) (.tmp u1) ti, y3, q3, e3, none⟩] false) (.seq (.cond (.tmp u3) .skip (.exit b1)) (.seq
        (.block b2 (.seq (.region r2 #[⟨some w1, .indexAddr tUs (.tmp u0) (.tmp u2), y4, q4, e4, none⟩, ⟨some w2, .load tU (.tmp w1), y5, q5, e5, none⟩, ⟨some ky, .assign (.tmp w2), y6, q6, e6, none⟩] false)
          (.seq (.region r3 #[⟨some w3, .move (.tmp ky), y7, q7, e7, none⟩] false) (.block b3 (.seq (.region r4 #[⟨some w4, .binOp .eql tU (.tmp w3) (.const (.int .u32 0)) tU, y8, q8, e8, none⟩, ⟨some w5, .assign (.tmp w4), y9, q9, e9, none⟩] false) (.cond (.tmp w5) body .skip))))))
        (.region r5 #[⟨some u4, .binOp .add ti (.tmp u2) (.const (.int .i64 1)) ti, y10, q10, e10, none⟩, ⟨some u2, .move (.tmp u4), y11, q11, e11, none⟩] false))))))) := by
  obtain ⟨hE, hfr, hrd, hnd⟩ := sl_out hsl
  obtain ⟨hE2, hfr2, hrd2, hnd2⟩ := sl_out hsl2
  have hk := of_decide_eq_true hk
  simp only [List.nodup_cons, List.mem_cons, List.mem_append, List.cons_append, List.nil_append, List.not_mem_nil, or_false, not_or, List.nodup_nil, and_true, not_false_eq_true] at hnd
  simp only [List.mem_cons, List.not_mem_nil, or_false, forall_eq_or_imp, forall_eq, Fre] at hfr hrd hrd2 hte
  intro a w base v bs hok hv hown hb hpre hti hlim
  have hN := hok.1
  obtain ⟨oa, cap, gt⟩ := hti.len
  refine wp_seq_k fun K hK => ?_
  refine zai ?_
  refine zal ?_
  simp only [zac, zaf, zag, zaa, zab, zad, ne_eq, zae, hN, hnd, hfr, not_false_eq_true, gt]
  refine wl_len (sliceB.any hs) (by simp only [zac, zaf, zag, zaa, zab, zad, ne_eq, zae, hN, hnd, hfr, not_false_eq_true, isS]) ?_
  simp only [zac, zaf, zag, zaa, zab, zad, ne_eq, zae, hN, hnd, hfr, not_false_eq_true, lenV]
  refine zal ?_
  simp only [zac, zaf, zag, zaa, zab, zad, ne_eq, zae, hN, hnd, hfr, not_false_eq_true]
  refine zah (hK _ _ ?_)
  clear hK K
  refine wp_block ?_
  have hn1 : n ≤ 1 := by rcases hti with ⟨h, _⟩ | ⟨h, _⟩ <;> omega
  refine wp_loop (fun a' w' => ∃ i, i ≤ n ∧ get a' u2 = .int .i64 i ∧ get a' u1 = .int .i64 n ∧ get a' u0 = .slice oa n cap ∧ zam (WS m E.T k) a a' ∧ App eB w base v (bs ++ if i = 1 then enc else []) (get a' 1) w')
    (fun a' _ => n - (intOf (get a' u2)).toNat) ?_ ?_
  · refine ⟨0, Nat.zero_le _, by simp only [zac, zaf, zag, zaa, zab, zad, ne_eq, zae, hN, hnd, hfr, not_false_eq_true]; rfl, by simp only [zac, zaf, zag, zaa, zab, zad, ne_eq, zae, hN, hnd, hfr, not_false_eq_true], by simp only [zac, zaf, zag, zaa, zab, zad, ne_eq, zae, hN, hnd, hfr, not_false_eq_true], by ((repeat (with_reducible refine zam.put ?_ (by simp only [hfr, not_false_eq_true]) _)); with_reducible exact zam.refl _ _), ?_⟩
    simp only [zac, zaf, zag, zaa, zab, zad, ne_eq, zae, hN, hnd, hfr, not_false_eq_true, hv]
    simp only [Nat.zero_ne_one, if_false, List.append_nil]
    exact App.refl hown
  clear hN
  rintro a1 wd ⟨i, hi, g2, g3, g4, hkp, happ⟩
  have hN : a1.tmps.size = E.N := hkp.size.trans hok.1
  have hc1 := happ.chgFrom hown
  have hpre1 := PrS.stable hrd _ _ _ _ _ hpre hkp hc1 hb
  have hb1 := Nat.le_trans hb hc1.size
  refine wp_seq_k fun K hK => ?_
  refine zai ?_
  refine wl_lss (by simp only [zac, zaf, zag, zaa, zab, zad, ne_eq, zae, hN, hnd, hfr, not_false_eq_true, g2, g3, sameK, decide_true]) ?_
  simp only [zac, zaf, zag, zaa, zab, zad, ne_eq, zae, hN, hnd, hfr, not_false_eq_true, g2, g3, cmp2]
  refine zah (hK _ _ ?_)
  clear hK K
  refine wp_seq_k fun K hK => ?_
  by_cases hlt : i < n
  · have e1 : decide ((i : Int) < (n : Int)) = true := decide_eq_true (by omega)
    rw [e1]
    obtain rfl : i = 0 := by omega
    obtain rfl : n = 1 := by omega
    refine wp_cond_true (by simp only [zac, zaf, zag, zaa, zab, zad, ne_eq, zae, hN, hnd, hfr, not_false_eq_true]) ?_
    refine wp_skip (hK _ _ ?_)
    clear hK K
    refine wp_seq_k fun K hK => ?_
    refine wp_block ?_
    have ht2 := hti.app happ
    rcases ht2 with ⟨h, _⟩ | ⟨_, kk, cap2, cs, T, h2, h3, h4, h5⟩
    · cases h
    rw [gt] at h2
    cases h2
    refine wp_seq_k fun K1 hK1 => ?_
    refine zai ?_
    refine wl_indexAddr (b := kk) (o := 0) (len := 1) (cap := cap) (k := .i64) (i := 0) hs (by simp only [zac, zaf, zag, zaa, zab, zad, ne_eq, zae, hN, hnd, hfr, not_false_eq_true, g4]) (by simp only [zac, zaf, zag, zaa, zab, zad, ne_eq, zae, hN, hnd, hfr, not_false_eq_true, g2]) (by omega) ?_
    refine wl_load (b := kk) (o := 0) hs2 (by simp only [zac, zaf, zag, zaa, zab, zad, ne_eq, zae, hN, hnd, hfr, not_false_eq_true]) h3 h4 ?_
    refine zak ?_
    simp only [zac, zaf, zag, zaa, zab, zad, ne_eq, zae, hN, hnd, hfr, not_false_eq_true]
    refine zah (hK1 _ _ ?_)
    clear hK1 K1
    refine wp_seq_k fun K1 hK1 => ?_
    refine zai ?_
    refine zal ?_
    simp only [zac, zaf, zag, zaa, zab, zad, ne_eq, zae, hN, hnd, hfr, not_false_eq_true]
    refine zah (hK1 _ _ ?_)
    clear hK1 K1
    refine wp_block ?_
    refine wp_seq_k fun K1 hK1 => ?_
    refine zai ?_
    refine wl_eql (by simp only [zac, zaf, zag, zaa, zab, zad, ne_eq, zae, hN, hnd, hfr, not_false_eq_true, eU, sameK, decide_true]) ?_
    simp only [zac, zaf, zag, zaa, zab, zad, ne_eq, zae, hN, hnd, hfr, not_false_eq_true, eU, cmp2]
    refine zak ?_
    simp only [zac, zaf, zag, zaa, zab, zad, ne_eq, zae, hN, hnd, hfr, not_false_eq_true]
    refine zah (hK1 _ _ ?_)
    clear hK1 K1
    refine wp_cond_true (by simp only [zac, zaf, zag, zaa, zab, zad, ne_eq, zae, hN, hnd, hfr, not_false_eq_true]; rfl) ?_
    refine wp_gen fun a2 ha2 => ?_
    have hN2 : a2.tmps.size = E.N := by rw [ha2]; simp only [zae]; exact hN
    have q1 : get a2 1 = get a1 1 := by rw [ha2]; simp only [zac, zaf, zag, zaa, zab, zad, ne_eq, zae, hN, hnd, hfr, not_false_eq_true]
    have q2 : get a2 u2 = .int .i64 0 := by rw [ha2]; simp only [zac, zaf, zag, zaa, zab, zad, ne_eq, zae, hN, hnd, hfr, not_false_eq_true, g2]; rfl
    have q3 : get a2 u1 = .int .i64 1 := by rw [ha2]; simp only [zac, zaf, zag, zaa, zab, zad, ne_eq, zae, hN, hnd, hfr, not_false_eq_true, g3]; rfl
    have q4 : get a2 u0 = .slice (some ⟨kk, 0, none⟩) 1 cap := by rw [ha2]; simp only [zac, zaf, zag, zaa, zab, zad, ne_eq, zae, hN, hnd, hfr, not_false_eq_true, g4]
    have hk2 : zam (WS m E.T k) a1 a2 := by rw [ha2]; ((repeat (with_reducible refine zam.put ?_ (by simp only [hfr, not_false_eq_true]) _)); with_reducible exact zam.refl _ _)
    have hka := hkp.trans hk2
    clear ha2 hN
    simp only [Nat.zero_ne_one, if_false, List.append_nil] at happ
    rw [if_pos rfl] at hlim
    refine wp_mono (hbody rfl a2 wd base _ bs (hok.keep hka hE.1 hE.2) q1 happ.own hb1 (PrS.stable hrd _ _ _ _ _ hpre hka hc1 hb) hlim) ?_
    intro e a3 w3 hq
    cases e <;> try exact hq.elim
    obtain ⟨hk3, happ3⟩ := hq
    simp only [Exit.then, Exit.inBlock]
    refine hK _ _ ?_
    clear hK K
    have hN : a3.tmps.size = E.N := hk3.size.trans hN2
    have z2 : get a3 u2 = .int .i64 0 := (hk3.slot _ hrd2.2.2.2).trans q2
    have z1 : get a3 u1 = .int .i64 1 := (hk3.slot _ hrd2.2.2.1).trans q3
    refine zai ?_
    refine wl_add (by simp only [zac, zaf, zag, zaa, zab, zad, ne_eq, zae, hN, hnd, hfr, not_false_eq_true, z2, sameK, decide_true]) ?_
    simp only [zac, zaf, zag, zaa, zab, zad, ne_eq, zae, hN, hnd, hfr, not_false_eq_true, z2, add2]
    refine zal ?_
    simp only [zac, zaf, zag, zaa, zab, zad, ne_eq, zae, hN, hnd, hfr, not_false_eq_true]
    rw [i64_id (0 + 1) (by omega)]
    have z0 : get a3 u0 = .slice (some ⟨kk, 0, none⟩) 1 cap := (hk3.slot _ hrd2.2.1).trans q4
    refine zah ?_
    have hkp3 : zam (WS m E.T k) a a3 := hka.trans (hk3.mono fun t ht => ht.mono (Nat.le_refl _) hk)
    refine ⟨⟨1, Nat.le_refl _, by simp only [zac, zaf, zag, zaa, zab, zad, ne_eq, zae, hN, hnd, hfr, not_false_eq_true]; rfl, by simp only [zac, zaf, zag, zaa, zab, zad, ne_eq, zae, hN, hnd, hfr, not_false_eq_true, z1]; rfl, by simp only [zac, zaf, zag, zaa, zab, zad, ne_eq, zae, hN, hnd, hfr, not_false_eq_true, z0], ?_, ?_⟩, ?_⟩
    · refine zam.put (zam.put hkp3 (by simp only [hfr, not_false_eq_true]) _) (by simp only [hfr, not_false_eq_true]) _
    · simp only [zac, zaf, zag, zaa, zab, zad, ne_eq, zae, hN, hnd, hfr, not_false_eq_true, if_true]
      exact happ.trans happ3
    · simp only [zac, zaf, zag, zaa, zab, zad, ne_eq, zae, hN, hnd, hfr, not_false_eq_true, g2, intOf]
      decide
  · have e1 : decide ((i : Int) < (n : Int)) = false := decide_eq_false (by omega)
    rw [e1]
    obtain rfl : i = n := by omega
    refine wp_cond_false (by simp only [zac, zaf, zag, zaa, zab, zad, ne_eq, zae, hN, hnd, hfr, not_false_eq_true]) ?_
    refine wp_exit ?_
    simp only [Exit.then, Exit.inBlock, if_pos]
    refine ⟨hkp.put (by simp only [hfr, not_false_eq_true]) _, ?_⟩
    simp only [zac, zaf, zag, zaa, zab, zad, ne_eq, zae, hN, hnd, hfr, not_false_eq_true]
    exact happ
def RzC (E : WEnv) (m k la : Nat) (c : Code) : Prop := ∀ (a : Act) (w : World) (base : Nat) (v : Value) (bs l : Bs), a.tmps.size = E.N → get a 1 = v → Own eB w base v (bs ++ l) → base ≤ w.heap.size → get a la = .int .i64 bs.length → bs.length + l.length ≤ LIM →
  bs.length + (zaZ (l.length % 4294967296)).length ≤ LIM → c.wp Tryd.prog (WQ (WS m E.T k) a w base v (bs ++ zaZ (l.length % 4294967296))) a w
theorem rz_vals {w : World} {base : Nat} {v : Value} {bs l : Bs} (h : Own eB w base v (bs ++ l)) :
    slcOK none (some (.int .i64 bs.length)) none v = true ∧ slcOK (some (.int .i64 bs.length)) none none v = true ∧ isS (slcV 1 (some (.int .i64 bs.length)) none none v) = true ∧
    lenV (slcV 1 (some (.int .i64 bs.length)) none none v) = .int .i64 l.length ∧ Own eB w base (slcV 1 none (some (.int .i64 bs.length)) none v) bs ∧ (slcV 1 none (some (.int .i64 bs.length)) none v).ownBlock = v.ownBlock := by
  have hl : (bs ++ l).length = bs.length + l.length := List.length_append
  rcases h.2 with ⟨rfl, h0⟩ | ⟨g, cap, cur, rfl, h2, h3, h4, h5, h6, h7⟩
  · have h1 : bs = [] := List.eq_nil_of_length_eq_zero (by omega)
    have h2 : l = [] := List.eq_nil_of_length_eq_zero (by omega)
    subst h1; subst h2
    exact ⟨rfl, rfl, rfl, rfl, Own.nil eB w base, rfl⟩
  · rw [hl] at h4
    have e : slcV 1 none (some (.int .i64 bs.length)) none (.slice (some ⟨g, 0, none⟩) (bs ++ l).length cap) = .slice (some ⟨g, 0, none⟩) bs.length cap := by
      simp only [slcV, optI, Nat.zero_mul, Nat.sub_zero, Int.toNat_natCast, Option.map_some, Addr.add, Nat.add_zero, ite_self]
    refine ⟨?_, ?_, ?_, ?_, ?_, ?_⟩
    · have h9 : bs.length ≤ cap := by omega
      simp [slcOK, optOK, optI, h9]
    · have h9 : bs.length ≤ cap := by omega
      simp [slcOK, optOK, optI, h9]; omega
    · rfl
    · simp only [slcV, optI, lenV, Int.toNat_natCast, hl, Nat.add_sub_cancel_left]
    · rw [e]
      refine ⟨by simp, .inr ⟨g, cap, cur, rfl, h2, h3, by omega, h5, h6, ?_⟩⟩
      have h8 := congrArg (List.take bs.length) h7
      rw [List.take_take, List.map_append, List.take_left' (by simp), Nat.min_eq_left (by omega)] at h8
      rw [Nat.mul_one]
      exact h8
    · rw [e]; rfl
theorem PrF.stable {x : Nat} {f : Fld} {d : D} (h : WS m E.T k x) : Stable E m k (PrF E x f d) (PrF E x f d) := by
  rintro a w base a' w' ⟨val, h1, h2⟩ hk hc hb
  exact ⟨val, (hk.slot _ h).trans h1, h2.stay (Stay.of hc fun n hn _ => by omega)⟩
end
end Go.Proofs.YtojpodeljpfgaabDoor
namespace Go.Proofs.YtojpodeljpfgaabDoor
set_option linter.all false
open Go.RowKit
set_option maxRecDepth 10000
set_option maxHeartbeats 4000000
section
variable {E : WEnv} {m k : Nat} {y0 y1 y2 y3 y4 y5 y6 y7 y8 y9 y10 y11 y12 y13 y14 y15 y16 y17 y18 y19 y20 y21 y22 y23 y24 y25 y26 y27 y28 y29 y30 y31 y32 y33 y34 y35 y36 y37 y38 y39 : TypeId} {q0 q1 q2 q3 q4 q5 q6 q7 q8 q9 q10 q11 q12 q13 q14 q15 q16 q17 q18 q19 q20 q21 q22 q23 q24 q25 q26 q27 q28 q29 q30 q31 q32 q33 q34 q35 q36 q37 q38 q39 : String} {e0 e1 e2 e3 e4 e5 e6 e7 e8 e9 e10 e11 e12 e13 e14 e15 e16 e17 e18 e19 e20 e21 e22 e23 e24 e25 e26 e27 e28 e29 e30 e31 e32 e33 e34 e35 e36 e37 e38 e39 : Array Edge} {r0 r1 r2 r3 r4 r5 : Nat}
variable {sS k0 te : Nat} {fs : List Fld} {s : S}
theorem tk_list {i T idx ty off t1 t2 t3 t4 t5 t6 u1 u2 u3 ti : Nat} {a1 a2 a3 a4 a5 : Int} {of : K} {sub : List Fld} {d : D} (hf : fs[i]? = some (.mk .list a1 a2 a3 a4 a5 of sub)) (hd : s.ds[i]? = some d) (hF : zaR Tryd.prog T idx off 1 = true) (ho : off = k0 + foff E.fl fs i)
    (hty : (scalB Tryd.prog ty && slB Tryd.prog ty) = true) (hsl : E.sl m k [t1, t2, t3, t4, t5, t6, te, u1, u2, u3] [sS] = true) :
    TkC E m k te sS k0 fs s (zaF d) (.seq (.region r0 #[⟨some t1, .move (.tmp sS), y0, q0, e0, none⟩, ⟨some t2, .nilCheck (.tmp t1), y1, q1, e1, none⟩, ⟨some t3, .fieldAddr T (.tmp t2) idx, y2, q2, e2, none⟩, ⟨some t4, .load ty (.tmp t3), y3, q3, e3, none⟩, ⟨some t5, .call { callee := .builtin .len, args := #[.tmp t4], argTypes := #[ty] }, y4, q4, e4, none⟩, ⟨some t6, .binOp .gtr ti (.tmp t5) (.const (.int .i64 0)) ti, y5, q5, e5, none⟩] false)
      (.cond (.tmp t6) (.region r1 #[⟨some u1, .move (.tmp te), y6, q6, e6, none⟩, ⟨some u2, .buildSlice tUs 1 #[(0, .const (.int .u32 0))], y7, q7, e7, none⟩, ⟨some u3, .call { callee := .builtin .append, args := #[.tmp u1, .tmp u2], argTypes := #[tUs, tUs] }, y8, q8, e8, none⟩, ⟨some te, .assign (.tmp u3), y9, q9, e9, none⟩] false) .skip)) := by
  obtain ⟨hE, hfr, hrd, hnd⟩ := sl_out hsl
  have hnd0 := hnd
  simp only [List.nodup_cons, List.mem_cons, List.mem_append, List.cons_append, List.nil_append, List.not_mem_nil, or_false, not_or, List.nodup_nil, and_true, not_false_eq_true] at hnd
  simp only [List.mem_cons, List.not_mem_nil, or_false, forall_eq_or_imp, forall_eq, Fre] at hfr
  simp only [Bool.and_eq_true] at hty
  intro a w base v bs hok hv hown hb hpre hte
  have hN := hok.1
  obtain ⟨B, p, g1, hat, hB⟩ := hpre
  obtain ⟨d', cs, Tb, k1, k2, k3, k4⟩ := hat.field hf
  rw [hd] at k1; cases k1
  have h1 : fsz E.fl (.mk .list a1 a2 a3 a4 a5 of sub) = 1 := rfl
  rw [h1] at k3 k4
  obtain ⟨val, hval, hseg⟩ := seg1 (by omega : (p + k0 + foff E.fl fs i) + 1 ≤ cs.length)
  rw [hseg] at k4
  obtain ⟨nil, l, rfl⟩ := rep_list k4
  have hvp : ∃ oa cap, val = .slice oa l.length cap := by
    unfold RepF at k4
    obtain ⟨oa, cap, h1, _⟩ := k4
    simp only [List.cons.injEq, and_true] at h1
    exact ⟨oa, cap, h1⟩
  obtain ⟨oa, cap, rfl⟩ := hvp
  have hu : decide ((0 : Int) < (l.length : Int)) = zaF (.arr nil l) := by
    cases l with
    | nil => rfl
    | cons x r => unfold zaF; simp
  refine wp_seq_k fun K hK => ?_
  refine zai ?_
  refine zal ?_
  simp only [zac, zaf, zag, zaa, zab, zad, ne_eq, zae, hN, hnd, hfr, not_false_eq_true, g1]
  refine zaI (p := ⟨B, p, none⟩) (by simp only [zac, zaf, zag, zaa, zab, zad, ne_eq, zae, hN, hnd, hfr, not_false_eq_true]) ?_
  refine zaE (b := B) (o := p) hF (by simp only [zac, zaf, zag, zaa, zab, zad, ne_eq, zae, hN, hnd, hfr, not_false_eq_true]) ?_
  refine wl_load (b := B) (o := p + off) hty.1 (by simp only [zac, zaf, zag, zaa, zab, zad, ne_eq, zae, hN, hnd, hfr, not_false_eq_true]) k2 (v := .slice oa l.length cap) (by rw [ho, ← Nat.add_assoc]; exact hval) ?_
  refine wl_len hty.2 (by simp only [zac, zaf, zag, zaa, zab, zad, ne_eq, zae, hN, hnd, hfr, not_false_eq_true, isS]) ?_
  simp only [zac, zaf, zag, zaa, zab, zad, ne_eq, zae, hN, hnd, hfr, not_false_eq_true, lenV]
  refine wl_gtr (by simp only [zac, zaf, zag, zaa, zab, zad, ne_eq, zae, hN, hnd, hfr, not_false_eq_true, sameK, decide_true]) ?_
  simp only [zac, zaf, zag, zaa, zab, zad, ne_eq, zae, hN, hnd, hfr, not_false_eq_true, cmp2, hu]
  refine zah (hK _ _ ?_)
  clear hK K
  refine wp_gen fun a3 ha3 => ?_
  have hkp : zam (WS m E.T k) a a3 := by rw [ha3]; ((repeat (with_reducible refine zam.put ?_ (by simp only [hfr, not_false_eq_true]) _)); with_reducible exact zam.refl _ _)
  have hv3 : get a3 1 = v := by rw [ha3]; simp only [zac, zaf, zag, zaa, zab, zad, ne_eq, zae, hN, hnd, hfr, not_false_eq_true, hv]
  have ht3 : get a3 te = .slice none 0 0 := by rw [ha3]; simp only [zac, zaf, zag, zaa, zab, zad, ne_eq, zae, hN, hnd, hfr, not_false_eq_true, hte]
  have hf3 : get a3 t6 = .bool (zaF (.arr nil l)) := by rw [ha3]; simp only [zac, zaf, zag, zaa, zab, zad, ne_eq, zae, hN, hnd, hfr, not_false_eq_true]
  clear ha3
  have hsl2 : E.sl m k [te, u1, u2, u3] [] = true := by
    unfold WEnv.sl slotB at hsl ⊢
    simp only [Bool.and_eq_true, decide_eq_true_eq, List.all_eq_true] at hsl ⊢
    obtain ⟨⟨⟨⟨⟨⟨x1, x2⟩, x3⟩, x4⟩, x5⟩, x6⟩, x7⟩ := hsl
    refine ⟨⟨⟨⟨⟨⟨x1, x2⟩, fun d hd => x3 d ?_⟩, fun d hd => by cases hd⟩, ?_⟩, x6⟩, x7⟩
    · simp only [List.mem_cons, List.not_mem_nil, or_false] at hd ⊢; omega
    · refine List.Nodup.sublist ?_ x5
      exact .cons_cons _ (.cons _ (.cons _ (.cons _ (.cons _ (.cons _ (.cons _ (.cons _ (List.Sublist.refl _))))))))
  refine wp_mono (tk_cond (b := zaF (.arr nil l)) (hkp.size.trans hN) hv3 hown ht3 hf3 hsl2) ?_
  rintro e a2 w2 ⟨rfl, q1, q2, q3, q4⟩
  exact ⟨rfl, hkp.trans q1, q2, q3, q4⟩
theorem wv_listS1 {x : Nat} {a1 a2 a3 a4 a5 : Int} {sub : List Fld} {nil : Bool} {l : List D} {cl : Code} (hl : ∀ (oa : Option Addr) (n cap : Nat) (M : World → Nat → Prop), WrC E m k cl (PrL x oa n cap M) (lenEnc E a3 oa.isNone n)) :
    WrC E m k cl (PrF E x (.mk .list a1 a2 a3 a4 a5 .struct sub) (.arr nil l)) (lenEnc E a3 nil l.length) := by
  intro a w base v bs hwk hv hown hb hpre hlim
  obtain ⟨val, g1, hr⟩ := hpre
  unfold RepF at hr
  dsimp only at hr
  obtain ⟨oa, cap, h3, h4, h5, h6⟩ := hr
  simp only [List.cons.injEq, and_true] at h3
  subst h3
  rw [h4.1] at hlim ⊢
  exact hl oa l.length cap (fun _ _ => True) a w base v bs hwk hv hown hb ⟨g1, trivial⟩ hlim
theorem wv_listS2 {x : Nat} {a1 a2 a3 a4 a5 : Int} {sub : List Fld} {nil : Bool} {l : List D} {u0 u1 u2 u3 u4 ty ti b1 b2 i y c1 c2 c3 c4 : Nat} {body : Code}
    (hty : sliceB Tryd.prog ty (ssz E.fl sub) = true) (hsl : E.sl m k [u0, u1, u2, u3, u4] [x] = true) (hsl2 : E.sl m (u2 + 1) [c1, i, c2, c3, c4, y] [x, u1, u2] = true) (hm : (decide (m ≤ y + 1) && decide (k ≤ u2 + 1)) = true)
    (hb : ∀ s : S, WrC E (y + 1) (u2 + 1) body (PrS E y 0 sub s) (partEnc E sub s)) :
    WrC E m k (.seq (.region r0 #[⟨some u0, .move (.tmp x), y0, q0, e0, none⟩, ⟨some u1, .call { callee := .builtin .len, args := #[.tmp u0], argTypes := #[ty] }, y1, q1, e1, none⟩, ⟨some u2, .move (.const (.int .i64 0)), y2, q2, e2, none⟩] false)
      (.block b1 (.loop (.seq (.region r1 #[⟨some u3, .binOp .lss ti (.tmp u2) (.tmp u1) ti, y3, q3, e3, none⟩] false) (.seq (.cond (.tmp u3) .skip (.exit b1)) (.seq (.block b2
          (.seq (.region r2 #[⟨some c1, .move (.tmp u2), y4, q4, e4, none⟩, ⟨some i, .assign (.tmp c1), y5, q5, e5, none⟩] false) (.seq (.region r3 #[⟨some c2, .move (.tmp x), y6, q6, e6, none⟩, ⟨some c3, .move (.tmp i), y7, q7, e7, none⟩, ⟨some c4, .indexAddr ty (.tmp c2) (.tmp c3), y8, q8, e8, none⟩, ⟨some y, .assign (.tmp c4), y9, q9, e9, none⟩] false) body)))
        (.region r4 #[⟨some u4, .binOp .add ti (.tmp u2) (.const (.int .i64 1)) ti, y10, q10, e10, none⟩, ⟨some u2, .move (.tmp u4), y11, q11, e11, none⟩] false)))))))
      (PrF E x (.mk .list a1 a2 a3 a4 a5 .struct sub) (.arr nil l)) ((List.range l.length).flatMap (encAtS (partEnc E sub) l)) := by
  simp only [Bool.and_eq_true, decide_eq_true_eq] at hm
  obtain ⟨hE, hfr, hrd, hnd⟩ := sl_out hsl
  obtain ⟨hE2, hfr2, hrd2, hnd2⟩ := sl_out hsl2
  intro a w base v bs hwk hv hown hbb hpre hlim
  obtain ⟨val, g1, hr⟩ := hpre
  unfold RepF at hr
  dsimp only at hr
  obtain ⟨oa, cap, h3, h4, hn, h6⟩ := hr
  simp only [List.cons.injEq, and_true] at h3
  subst h3
  refine (?_ : WrC E m k _ (PrL x oa l.length cap (ML E .struct sub l oa)) _) a w base v bs hwk hv hown hbb ⟨g1, h6⟩ hlim
  refine wr_loop (m' := m) (k' := u2 + 1) hty ML.stable hn (fun j hj => ?_) ⟨hE, hrd x (by simp), Nat.le_refl _, hm.2, hrd2 u1 (by simp), hrd2 u2 (by simp)⟩ (fun d hd => hfr d (List.mem_cons_of_mem _ hd)) (by simpa using hnd)
  have hnd3 : [1, x, u2, c1, i, c2, c3, c4, y].Nodup := by
    refine List.Nodup.sublist ?_ hnd2
    exact .cons_cons _ (.cons_cons _ (.cons _ (List.Sublist.refl _)))
  exact wr_elemS hty rfl rfl hj (fun s _ => hb s) ⟨hE2, hm.1, Nat.le_refl _⟩ (fun d hd => hfr2 d (List.mem_cons_of_mem _ hd)) hnd3
theorem bk_scope2 {i T idx x sz la t1 t2 t3 t4 p1 p2 v1 v2 n1 n2 ty off lb : Nat} {us2 : Array TypeId} {f : Fld} {d : D} {c1 c2 cR : Code} {en1 en2 : Bs}
    (hf : fs[i]? = some f) (hd : s.ds[i]? = some d) (hB : (fsz E.fl f == 1 && zaR Tryd.prog T idx off 1 && scalB Tryd.prog ty) = true) (ho : off = k0 + foff E.fl fs i) (hbt : slB Tryd.prog 22 = true)
    (hsl : E.sl m k [t1, t2, t3, t4, x, p1, p2, sz, v1, v2, la, n1, n2] [sS] = true) (hsl2 : E.sl (la + 1) k [t1, t2, t3, t4, p1, p2, v1, v2, n1, n2] [x, sz, la] = true) (hm : decide (m ≤ la + 1) = true)
    (he : encF E.flex E.ver f d = en1 ++ en2) (h1 : WrC E (la + 1) k c1 (PrF E x f d) en1) (h2 : WrC E (la + 1) k c2 (PrF E x f d) en2) (hR : RzC E (la + 1) k la cR) :
    WrC E m k (.scope (.seq (.region r0 #[⟨some t1, .move (.tmp sS), y0, q0, e0, none⟩, ⟨some t2, .nilCheck (.tmp t1), y1, q1, e1, none⟩, ⟨some t3, .fieldAddr T (.tmp t2) idx, y2, q2, e2, none⟩, ⟨some t4, .load ty (.tmp t3), y3, q3, e3, none⟩, ⟨some x, .assign (.tmp t4), y4, q4, e4, none⟩] false)
      (.seq (.region r1 #[⟨some p1, .move (.tmp 1), y5, q5, e5, none⟩, ⟨some p2, .call { callee := .value (.func 21), args := #[.tmp p1, .const (.int .u32 0)], argTypes := us2 }, y6, q6, e6, none⟩, ⟨some 1, .assign (.tmp p2), y7, q7, e7, none⟩] false)
        (.seq (.region r2 #[⟨some sz, .assign (.const (.bool false)), y8, q8, e8, none⟩] false)
          (.seq (.region r3 #[⟨some v1, .move (.tmp 1), y9, q9, e9, none⟩, ⟨some v2, .call { callee := .builtin .len, args := #[.tmp v1], argTypes := #[22] }, y10, q10, e10, none⟩, ⟨some la, .assign (.tmp v2), y11, q11, e11, none⟩] false)
            (.seq (.label lb) (.seq c1 (.seq c2 (.seq (.region r4 #[⟨some n1, .move (.tmp sz), y12, q12, e12, none⟩, ⟨some n2, .unOp .not 4 (.tmp n1), y13, q13, e13, none⟩] false)
              (.cond (.tmp n2) (.seq cR (.seq (.region r5 #[⟨some sz, .assign (.const (.bool true)), y14, q14, e14, none⟩] false) (.goto lb))) .skip))))))))))
      (PrS E sS k0 fs s) (zaZ 0 ++ (zaZ ((encF E.flex E.ver f d).length % 4294967296) ++ encF E.flex E.ver f d)) := by
  obtain ⟨hE, hfr, hrd, hnd⟩ := sl_out hsl
  obtain ⟨hE2, hfr2, hrd2, hnd2⟩ := sl_out hsl2
  have hm := of_decide_eq_true hm
  simp only [List.nodup_cons, List.mem_cons, List.mem_append, List.cons_append, List.nil_append, List.not_mem_nil, or_false, not_or, List.nodup_nil, and_true, not_false_eq_true] at hnd
  simp only [List.mem_cons, List.not_mem_nil, or_false, forall_eq_or_imp, forall_eq, Fre] at hfr hrd hrd2 hfr2
  simp only [Bool.and_eq_true, beq_iff_eq] at hB
  obtain ⟨⟨b1, hF⟩, hty⟩ := hB
  intro a w base v bs hok hv hown hb hpre hlim
  have hN := hok.1
  obtain ⟨B, p, g1, hat, hB⟩ := hpre
  obtain ⟨d', cs, Tb, k1, k2, k3, k4⟩ := hat.field hf
  rw [hd] at k1; cases k1
  rw [b1] at k3 k4
  obtain ⟨val, hval, hseg⟩ := seg1 (by omega : (p + k0 + foff E.fl fs i) + 1 ≤ cs.length)
  rw [hseg] at k4
  rw [he] at hlim ⊢
  clear he
  rw [List.length_append, List.length_append] at hlim
  obtain ⟨en, hen⟩ : ∃ en, en = en1 ++ en2 := ⟨_, rfl⟩
  rw [← hen] at hlim ⊢
  have hlen : en.length = en1.length + en2.length := by rw [hen, List.length_append]
  have key : ∀ (cV : Code) (en : Bs) (hV : WrC E (la + 1) k cV (PrF E x f d) en) a2 w2 v2 (zb : Bool), zam (WS m E.T k) a a2 → get a2 x = val → get a2 sz = .bool zb → get a2 la = .int .i64 (bs.length + (zaZ 0).length : Nat) → ∀ pre, App eB w base v (bs ++ zaZ 0 ++ pre) v2 w2 → get a2 1 = v2 → bs.length + (zaZ 0).length + pre.length + en.length ≤ LIM →
      ∀ Q : Exit → Act → World → Prop, (∀ a3 w3, zam (WS m E.T k) a a3 → get a3 x = val → get a3 sz = .bool zb → get a3 la = .int .i64 (bs.length + (zaZ 0).length : Nat) → App eB w base v (bs ++ zaZ 0 ++ pre ++ en) (get a3 1) w3 → Q .normal a3 w3) → cV.wp Tryd.prog Q a2 w2 := by
    intro cV en hV a2 w2 v2 zb hk2 gx gz gl pre ha g1 hpl Q hQ
    have hc2 := ha.chgFrom hown
    refine wp_mono (hV a2 w2 base v2 _ (hok.keep hk2 hE.1 hE.2) g1 ha.own (Nat.le_trans hb hc2.size) ⟨val, gx, k4.stay (Stay.of hc2 fun n hn _ => by omega)⟩ (by rw [List.length_append, List.length_append]; omega)) ?_
    intro e a3 w3 hq
    cases e <;> try exact hq.elim
    obtain ⟨hk3, ha3⟩ := hq
    exact hQ a3 w3 (hk2.trans (hk3.mono fun t ht => ht.mono hm (Nat.le_refl _))) ((hk3.slot _ hrd2.1).trans gx) ((hk3.slot _ hrd2.2.1).trans gz) ((hk3.slot _ hrd2.2.2).trans gl) (ha.trans ha3)
  refine wp_scope_jumps lb (fun a2 w2 => zam (WS m E.T k) a a2 ∧ get a2 x = val ∧ get a2 sz = .bool true ∧ get a2 la = .int .i64 (bs.length + (zaZ 0).length : Nat) ∧ App eB w base v (bs ++ zaZ 0 ++ zaZ (en.length % 4294967296)) (get a2 1) w2) (fun _ _ => 0) (by simp [findLabel]; rfl) ?_ ?_
  rotate_left
  · rintro a2 w2 ⟨hk2, gx, gz, gl, ha2⟩
    refine wp_seq_k fun K hK => wp_skip (hK _ _ ?_)
    clear hK K
    refine wp_seq_k fun K hK => ?_
    refine key c1 en1 h1 a2 w2 _ true hk2 gx gz gl _ ha2 rfl (by omega) _ fun a3 w3 hk3 gx3 gz3 gl3 ha3 => hK _ _ ?_
    clear hK K
    refine wp_seq_k fun K hK => ?_
    rw [List.append_assoc] at ha3
    refine key c2 en2 h2 a3 w3 _ true hk3 gx3 gz3 gl3 _ ha3 rfl (by rw [List.length_append]; omega) _ fun a3 w3 hk3 gx3 gz3 gl3 ha3 => hK _ _ ?_
    clear hK K hN
    have hN : a3.tmps.size = E.N := hk3.size.trans hok.1
    refine wp_seq_k fun K hK => ?_
    refine zai ?_
    refine zal ?_
    simp only [zac, zaf, zag, zaa, zab, zad, ne_eq, zae, hN, hnd, hfr, not_false_eq_true, gz3]
    refine wl_not (by simp only [zac, zaf, zag, zaa, zab, zad, ne_eq, zae, hN, hnd, hfr, not_false_eq_true, isB]) ?_
    simp only [zac, zaf, zag, zaa, zab, zad, ne_eq, zae, hN, hnd, hfr, not_false_eq_true, notV]
    refine zah (hK _ _ ?_)
    refine wp_cond_false (by simp only [zac, zaf, zag, zaa, zab, zad, ne_eq, zae, hN, hnd, hfr, not_false_eq_true]; rfl) ?_
    refine wp_skip ?_
    show WQ _ a w base v _ .normal _ _
    refine ⟨?_, ?_⟩
    · refine zam.put (zam.put hk3 (by simp only [hfr, not_false_eq_true]) _) (by simp only [hfr, not_false_eq_true]) _
    · simp only [zac, zaf, zag, zaa, zab, zad, ne_eq, zae, hN, hnd, hfr, not_false_eq_true]
      rw [hen]
      simp only [List.append_assoc] at ha3 ⊢
      rw [hen] at ha3
      exact ha3
  refine wp_seq_k fun K hK => ?_
  refine zai ?_
  refine zal ?_
  simp only [zac, zaf, zag, zaa, zab, zad, ne_eq, zae, hN, hnd, hfr, not_false_eq_true, g1]
  refine zaI (p := ⟨B, p, none⟩) (by simp only [zac, zaf, zag, zaa, zab, zad, ne_eq, zae, hN, hnd, hfr, not_false_eq_true]) ?_
  refine zaE (b := B) (o := p) hF (by simp only [zac, zaf, zag, zaa, zab, zad, ne_eq, zae, hN, hnd, hfr, not_false_eq_true]) ?_
  refine wl_load (b := B) (o := p + off) hty (by simp only [zac, zaf, zag, zaa, zab, zad, ne_eq, zae, hN, hnd, hfr, not_false_eq_true]) k2 (v := val) (by rw [ho, ← Nat.add_assoc]; exact hval) ?_
  refine zak ?_
  simp only [zac, zaf, zag, zaa, zab, zad, ne_eq, zae, hN, hnd, hfr, not_false_eq_true]
  refine zah (hK _ _ ?_)
  clear hK K
  refine wp_seq_k fun K hK => ?_
  refine zai ?_
  refine zal ?_
  simp only [zac, zaf, zag, zaa, zab, zad, ne_eq, zae, hN, hnd, hfr, not_false_eq_true, hv]
  refine wl_callApp (fun args w => Tryd.call21 args w) (zaU 0 (by omega)) (by simp only [List.map_toArray, List.map_cons, List.map_nil]; simp only [zac, zaf, zag, zaa, zab, zad, ne_eq, zae, hN, hnd, hfr, not_false_eq_true]; rfl) hown (by omega) hb trivial ?_
  intro v1 w1 happ
  refine zak ?_
  simp only [zac, zaf, zag, zaa, zab, zad, ne_eq, zae, hN, hnd, hfr, not_false_eq_true]
  refine zah (hK _ _ ?_)
  clear hK K
  refine wp_seq_k fun K hK => ?_
  refine zai ?_
  refine zak ?_
  simp only [zac, zaf, zag, zaa, zab, zad, ne_eq, zae, hN, hnd, hfr, not_false_eq_true]
  refine zah (hK _ _ ?_)
  clear hK K
  refine wp_seq_k fun K hK => ?_
  refine zai ?_
  refine zal ?_
  simp only [zac, zaf, zag, zaa, zab, zad, ne_eq, zae, hN, hnd, hfr, not_false_eq_true]
  refine wl_len hbt (by simp only [zac, zaf, zag, zaa, zab, zad, ne_eq, zae, hN, hnd, hfr, not_false_eq_true]; exact happ.own.isS) ?_
  simp only [zac, zaf, zag, zaa, zab, zad, ne_eq, zae, hN, hnd, hfr, not_false_eq_true, happ.own.lenV]
  refine zak ?_
  simp only [zac, zaf, zag, zaa, zab, zad, ne_eq, zae, hN, hnd, hfr, not_false_eq_true]
  refine zah (hK _ _ ?_)
  clear hK K
  refine wp_gen fun a2 ha2 => ?_
  have hk2 : zam (WS m E.T k) a a2 := by rw [ha2]; ((repeat (with_reducible refine zam.put ?_ (by simp only [hfr, not_false_eq_true]) _)); with_reducible exact zam.refl _ _)
  have gx : get a2 x = val := by rw [ha2]; simp only [zac, zaf, zag, zaa, zab, zad, ne_eq, zae, hN, hnd, hfr, not_false_eq_true]
  have gz : get a2 sz = .bool false := by rw [ha2]; simp only [zac, zaf, zag, zaa, zab, zad, ne_eq, zae, hN, hnd, hfr, not_false_eq_true]
  have gl : get a2 la = .int .i64 (bs.length + (zaZ 0).length : Nat) := by rw [ha2]; simp only [zac, zaf, zag, zaa, zab, zad, ne_eq, zae, hN, hnd, hfr, not_false_eq_true, List.length_append]
  have g1 : get a2 1 = v1 := by rw [ha2]; simp only [zac, zaf, zag, zaa, zab, zad, ne_eq, zae, hN, hnd, hfr, not_false_eq_true]
  clear ha2 hN
  refine wp_seq_k fun K hK => wp_label (hK _ _ ?_)
  clear hK K
  refine wp_seq_k fun K hK => ?_
  refine key c1 en1 h1 a2 w1 _ false hk2 gx gz gl [] (by rw [List.append_nil]; exact happ) g1 (by rw [List.length_nil]; omega) _ fun a3 w3 hk3 gx3 gz3 gl3 ha3 => hK _ _ ?_
  clear hK K
  refine wp_seq_k fun K hK => ?_
  rw [List.append_nil] at ha3
  refine key c2 en2 h2 a3 w3 _ false hk3 gx3 gz3 gl3 _ ha3 rfl (by omega) _ fun a3 w3 hk3 gx3 gz3 gl3 ha3 => hK _ _ ?_
  clear hK K
  have hN : a3.tmps.size = E.N := hk3.size.trans hok.1
  refine wp_seq_k fun K hK => ?_
  refine zai ?_
  refine zal ?_
  simp only [zac, zaf, zag, zaa, zab, zad, ne_eq, zae, hN, hnd, hfr, not_false_eq_true, gz3]
  refine wl_not (by simp only [zac, zaf, zag, zaa, zab, zad, ne_eq, zae, hN, hnd, hfr, not_false_eq_true, isB]) ?_
  simp only [zac, zaf, zag, zaa, zab, zad, ne_eq, zae, hN, hnd, hfr, not_false_eq_true, notV]
  refine zah (hK _ _ ?_)
  clear hK K
  refine wp_cond_true (by simp only [zac, zaf, zag, zaa, zab, zad, ne_eq, zae, hN, hnd, hfr, not_false_eq_true]; rfl) ?_
  refine wp_gen fun a4 ha4 => ?_
  have hk4 : zam (WS m E.T k) a a4 := by
    rw [ha4]
    refine zam.put (zam.put hk3 (by simp only [hfr, not_false_eq_true]) _) (by simp only [hfr, not_false_eq_true]) _
  have gx4 : get a4 x = val := by rw [ha4]; simp only [zac, zaf, zag, zaa, zab, zad, ne_eq, zae, hN, hnd, hfr, not_false_eq_true, gx3]
  have gl4 : get a4 la = .int .i64 (bs.length + (zaZ 0).length : Nat) := by rw [ha4]; simp only [zac, zaf, zag, zaa, zab, zad, ne_eq, zae, hN, hnd, hfr, not_false_eq_true, gl3]
  have g14 : get a4 1 = get a3 1 := by rw [ha4]; simp only [zac, zaf, zag, zaa, zab, zad, ne_eq, zae, hN, hnd, hfr, not_false_eq_true]
  clear ha4 hN
  rw [List.append_assoc, ← hen] at ha3
  have hc3 := ha3.chgFrom hown
  refine wp_seq_k fun K hK => ?_
  refine wp_mono (hR a4 w3 base _ (bs ++ zaZ 0) en (hk4.size.trans hok.1) g14 ha3.own (Nat.le_trans hb hc3.size) (by rw [List.length_append]; exact gl4) (by rw [List.length_append]; omega) (by rw [List.length_append]; omega)) ?_
  intro e a5 w5 hq
  cases e <;> try exact hq.elim
  obtain ⟨hk5, ha5⟩ := hq
  refine hK _ _ ?_
  clear hK K
  have hk5' := hk4.trans (hk5.mono fun t ht => ht.mono hm (Nat.le_refl _))
  have hN : a5.tmps.size = E.N := hk5'.size.trans hok.1
  have gx5 := (hk5.slot _ hrd2.1).trans gx4
  have gl5 := (hk5.slot _ hrd2.2.2).trans gl4
  refine wp_seq_k fun K hK => ?_
  refine zai ?_
  refine zak ?_
  simp only [zac, zaf, zag, zaa, zab, zad, ne_eq, zae, hN, hnd, hfr, not_false_eq_true]
  refine zah (hK _ _ ?_)
  clear hK K
  refine wp_goto ?_
  refine ⟨rfl, hk5'.put (by simp only [hfr, not_false_eq_true]) _, by simp only [zac, zaf, zag, zaa, zab, zad, ne_eq, zae, hN, hnd, hfr, not_false_eq_true, gx5], by simp only [zac, zaf, zag, zaa, zab, zad, ne_eq, zae, hN, hnd, hfr, not_false_eq_true], by simp only [zac, zaf, zag, zaa, zab, zad, ne_eq, zae, hN, hnd, hfr, not_false_eq_true, gl5], ?_⟩
  simp only [zac, zaf, zag, zaa, zab, zad, ne_eq, zae, hN, hnd, hfr, not_false_eq_true]
  exact ha3.trans ha5
theorem bk_isList {i : Nat} {a1 a2 a3 a4 a5 : Int} {of : K} {sub : List Fld} {d : D} {c : Code} {enc : Bs} (hf : fs[i]? = some (.mk .list a1 a2 a3 a4 a5 of sub)) (hd : s.ds[i]? = some d)
    (h : ∀ nil l, d = .arr nil l → WrC E m k c (PrS E sS k0 fs s) enc) : WrC E m k c (PrS E sS k0 fs s) enc := by
  intro a w base v bs hok hv hown hb hpre hlim
  obtain ⟨B, p, g1, hat, hB⟩ := id hpre
  obtain ⟨d', cs, Tb, k1, k2, k3, k4⟩ := hat.field hf
  rw [hd] at k1; cases k1
  have h1 : fsz E.fl (.mk .list a1 a2 a3 a4 a5 of sub) = 1 := rfl
  rw [h1] at k3 k4
  obtain ⟨val, hval, hseg⟩ := seg1 (by omega : (p + k0 + foff E.fl fs i) + 1 ≤ cs.length)
  rw [hseg] at k4
  obtain ⟨nil, l, e⟩ := rep_list k4
  exact h nil l e a w base v bs hok hv hown hb hpre hlim
end
end Go.Proofs.YtojpodeljpfgaabDoor
