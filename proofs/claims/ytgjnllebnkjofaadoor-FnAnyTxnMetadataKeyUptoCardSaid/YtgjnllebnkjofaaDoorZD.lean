import Derived.Test.YtgjnllebnkjofaaDoorZC
/-
What the proofs of the laws rest on, part ZD.
-/
namespace Go.Proofs.YtgjnllebnkjofaaDoor
set_option linter.all false
open Go.RowKit
set_option maxRecDepth 10000
set_option maxHeartbeats 2000000
section
variable {y0 y1 y2 y3 y4 y5 y6 y7 y8 y9 y10 y11 y12 y13 y14 y15 y16 y17 y18 y19 y20 y21 y22 y23 y24 y25 y26 y27 y28 y29 y30 y31 y32 y33 y34 y35 y36 y37 y38 y39 : TypeId} {q0 q1 q2 q3 q4 q5 q6 q7 q8 q9 q10 q11 q12 q13 q14 q15 q16 q17 q18 q19 q20 q21 q22 q23 q24 q25 q26 q27 q28 q29 q30 q31 q32 q33 q34 q35 q36 q37 q38 q39 : String} {e0 e1 e2 e3 e4 e5 e6 e7 e8 e9 e10 e11 e12 e13 e14 e15 e16 e17 e18 e19 e20 e21 e22 e23 e24 e25 e26 e27 e28 e29 e30 e31 e32 e33 e34 e35 e36 e37 e38 e39 : Array Edge} {r0 r1 r2 r3 r4 r5 : Nat}
variable {r6 r7 r8 r9 r10 r11 r12 r13 : Nat}
variable {E : REnv} {m mB sS k0 i I x y ys aS iS lS vS t1 t2 t3 t4 t5 t6 t7 t8 t9 t10 t11 t12 t13 t14 t15 t16 t17 w1' w2' w3' w4' w5' u1 u2 u3 u4 u5 v1 v2 v3 v4 b1 b2 ug uo uc ui : Nat} {fs sub : List Fld} {pre : S → Prop} {c c1 c2 body cl cn cr : Code} {us us2 us3 : Array TypeId} {fn : FuncId} {T ty ti idx off ua uoT tyV tyW tyE sz : Nat} {a1 a2 a3 a4 a5 : Int} {of : K} {z : Value} {f : Fld} {sem : Bs → Option (D × Bs)} {tl semS : Sem}
def RtQ (E : REnv) (m k0 : Nat) (fs : List Fld) (sem : Sem) (w : World) (O : Nat → Prop) (R B p : Nat) (st : Option Bs) (s : S) : Exit → Act → World → Prop
  | .ret, a', w' => a'.defers = [] ∧ ((st.bind (sem s) = none ∧ (∃ t x, get a' 6 = .iface t x) ∧ Chg O w w') ∨
      ∃ s1 r, st.bind (sem s) = some (s1, r) ∧ get a' 6 = .nilIface ∧ Chg (fun k => k = R ∨ k = B) w w' ∧ At w' (fun g => ¬ O g) E.fl fs s1 B (p + k0) ∧ Rest w w' B (p + k0) (ssz E.fl fs))
  | _, _, _ => False
def RtC (E : REnv) (m sS k0 : Nat) (fs : List Fld) (pre : S → Prop) (sem : Sem) (c : Code) : Prop :=
  ∀ (a : Act) (w : World) (O : Nat → Prop) (R B p : Nat) (st : Option Bs) (s : S), RB E a w O R st → RP E sS k0 fs a w O R B p s → pre s → c.wp Tryd.prog (RtQ E m k0 fs sem w O R B p st s) a w
theorem rt_seq {pre1 pre2 : S → Prop} {sem sem1 sem2 : Sem} {I1 : Nat} (hm : Low E m ∧ sS < m ∧ sS ≠ 6) (h1 : RdC E m sS k0 fs I1 pre1 sem1 c1) (h2 : RtC E m sS k0 fs pre2 sem2 c2)
    (hp1 : ∀ s, pre s → pre1 s) (hp2 : ∀ s s' : S, pre s → s.ds.length = fs.length → (∀ j, I1 ≤ j → s'.ds[j]? = s.ds[j]?) → pre2 s') (he : ∀ s bs, pre s → s.ds.length = fs.length → sem s bs = (sem1 s bs).bind fun x => sem2 x.1 x.2) : RtC E m sS k0 fs pre sem (.seq c1 c2) := by
  intro a w O R B p st s hB hP hpre
  have hlen := hP.at_.len
  have hsem : st.bind (sem s) = (st.bind (sem1 s)).bind fun x => sem2 x.1 x.2 := by
    cases st with
    | none => rfl
    | some bs => exact he s bs hpre hlen
  refine wp_seq (wp_mono (h1 a w O R B p st s hB hP (hp1 s hpre)) ?_)
  intro e a1 w1 hq
  cases e <;> try exact hq.elim
  · obtain ⟨hk, hc, hr, st1, s1, hs1, ha1, hstp, hl, hI⟩ := hq
    have hcO : Chg O w w1 := hc.mono fun k _ hk => by rcases hk with rfl | rfl; exact hB.oR; exact hP.oB
    have hB1 := hB.next hm.1 hk hc (fun k hk => by rcases hk with rfl | rfl; exact hB.oR; exact hP.oB) hs1 hl
    have hP1 : RP E sS k0 fs a1 w1 O R B p s1 := ⟨(hk.slot _ ⟨hm.2.1, hm.2.2⟩).trans hP.pt, ha1, hP.oB, hP.ne⟩
    refine wp_mono (h2 a1 w1 O R B p st1 s1 hB1 hP1 (hp2 s s1 hpre hlen hI)) ?_
    intro e a2 w2 hq
    cases e <;> try exact hq.elim
    obtain ⟨q1, q2⟩ := hq
    unfold Stp at hstp
    have hst : st1.bind (sem2 s1) = st.bind (sem s) := by
      rw [hsem]
      cases hh : st.bind (sem1 s) with
      | none => rw [hh] at hstp; rw [hstp]; rfl
      | some y => rw [hh] at hstp; rw [hstp.1, hstp.2]; rfl
    rw [hst] at q2
    refine ⟨q1, ?_⟩
    rcases q2 with ⟨x1, x2, x3⟩ | ⟨s2, r, x1, x2, x3, x4, x5⟩
    · exact .inl ⟨x1, x2, hcO.trans x3 fun _ _ h => h⟩
    · exact .inr ⟨s2, r, x1, x2, hc.trans x3 fun _ _ h => h, x4, hr.trans x5⟩
  · obtain ⟨q1, q2, q3, q4⟩ := hq
    refine ⟨q1, .inl ⟨?_, q2, q4⟩⟩
    rw [hsem, q3]; rfl
theorem rt_next {tl : Sem} (hf : fs[i]? = some f) (hsl : rsl E m [] [sS] = true) (h1 : RdC E m sS k0 fs (i + 1) (Fresh fs i) (semFld E f i) c1) (h2 : RtC E m sS k0 fs (Fresh fs (i + 1)) (semL E fs (i + 1) tl) c2) :
    RtC E m sS k0 fs (Fresh fs i) (semL E fs i tl) (.seq c1 c2) := by
  obtain ⟨hm, hw, hr, hnd⟩ := rsl_out hsl
  simp only [List.mem_cons, List.not_mem_nil, or_false, forall_eq] at hr
  exact rt_seq ⟨hm, hr.1, hr.2⟩ h1 h2 (fun _ h => h) (fun s s' h _ hs => h.on (by omega) hs) fun s bs h hl => semL_step hf h hl
theorem rt_tagged {tl : Sem} (hf : fs[i]? = some f) (ht : decide (0 ≤ f.tag) = true) (h : RtC E m sS k0 fs (Fresh fs (i + 1)) (semL E fs (i + 1) tl) c) : RtC E m sS k0 fs (Fresh fs i) (semL E fs i tl) c := by
  intro a w O R B p st s hB hP hfr
  have hlen := hP.at_.len
  have e : st.bind (semL E fs i tl s) = st.bind (semL E fs (i + 1) tl s) := by
    cases st with
    | none => rfl
    | some bs =>
      simp only [Option.bind_some]
      rw [semL_step hf hfr hlen]
      unfold semFld
      have := of_decide_eq_true ht
      rw [if_neg (by simp; omega)]
      rfl
  refine wp_mono (h a w O R B p st s hB hP (hfr.up (by omega))) ?_
  intro e' a1 w1 hq
  cases e' <;> try exact hq.elim
  unfold RtQ at hq ⊢
  rw [e]; exact hq
theorem rt_end {tl : Sem} (hl : decide (fs.length ≤ i) = true) (h : RtC E m sS k0 fs (fun _ => True) tl c) : RtC E m sS k0 fs (Fresh fs i) (semL E fs i tl) c := by
  intro a w O R B p st s hB hP hfr
  have hlen := hP.at_.len
  have e : st.bind (semL E fs i tl s) = st.bind (tl s) := by
    cases st with
    | none => rfl
    | some bs =>
      simp only [Option.bind_some]
      exact semL_end (of_decide_eq_true hl) hlen
  refine wp_mono (h a w O R B p st s hB hP trivial) ?_
  intro e' a1 w1 hq
  cases e' <;> try exact hq.elim
  unfold RtQ at hq ⊢
  rw [e]; exact hq
theorem rt_fin (hC : Enters Tryd.prog 54) (h6 : decide (6 < E.N) = true) (hsl : rsl E m [t1] [7] = true) :
    RtC E m sS k0 fs (fun _ => True) (fun s bs => some (s, bs)) (.seq (.region r0 #[⟨some t1, .call { callee := .value (.func 54), args := #[.tmp 7], argTypes := us }, y0, q0, e0, none⟩, ⟨some 6, .assign (.tmp t1), y1, q1, e1, none⟩] false) .ret) := by
  obtain ⟨hm, hw, hr, hnd⟩ := rsl_out hsl
  simp only [List.mem_cons, List.not_mem_nil, or_false, forall_eq] at hw hr
  intro a w O R B p st s hB hP _
  have hN := hB.ok.1
  refine wp_seq_k fun K hK => ?_
  refine zag ?_
  refine zaC hC (by simp only [List.map_toArray, List.map_cons, List.map_nil, zah, hB.rd]; exact Complete_c hB.rs hB.err) ?_
  rintro v _ ⟨rfl, h1, h2⟩
  refine zaB ?_
  rw [zah, zae (by rw [hN]; exact hw.2.1)]
  refine zad (hK _ _ ?_)
  have g6 : ∀ v, get ((a.put (some t1) v).put (some 6) v) 6 = v := fun v => zae (by rw [zai, hN]; exact of_decide_eq_true h6)
  refine wp_ret ⟨by simp only [zab]; exact hB.ok.2.1, ?_⟩
  cases st with
  | none =>
    obtain ⟨t, x, rfl⟩ := h1 rfl
    exact .inl ⟨rfl, ⟨t, x, g6 _⟩, Chg.refl _ _⟩
  | some bs =>
    rw [h2 (fun h => by cases h)]
    exact .inr ⟨s, bs, rfl, g6 _, Chg.refl _ _, hP.at_, Rest.of rfl⟩
end
end Go.Proofs.YtgjnllebnkjofaaDoor
namespace Go.Proofs.YtgjnllebnkjofaaDoor
set_option linter.all false
open Go.RowKit
set_option maxRecDepth 10000
set_option maxHeartbeats 2000000
def DefM (fn : FuncId) (dc : List Value) : Prop := ∀ (w : World) (B : Nat) (v : Value) (T : TypeId), Blk w B (v :: dc) T → zaD Tryd.prog fn #[.pointer (some ⟨B, 0, none⟩)] w fun _ w' => Blk w' B (v :: dc) T ∧ Chg (fun k => k = B) w w'
section
variable {y0 y1 y2 y3 y4 y5 y6 y7 y8 y9 y10 y11 y12 y13 y14 y15 y16 y17 y18 y19 y20 y21 y22 y23 y24 y25 y26 y27 y28 y29 y30 y31 y32 y33 y34 y35 y36 y37 y38 y39 : TypeId} {q0 q1 q2 q3 q4 q5 q6 q7 q8 q9 q10 q11 q12 q13 q14 q15 q16 q17 q18 q19 q20 q21 q22 q23 q24 q25 q26 q27 q28 q29 q30 q31 q32 q33 q34 q35 q36 q37 q38 q39 : String} {e0 e1 e2 e3 e4 e5 e6 e7 e8 e9 e10 e11 e12 e13 e14 e15 e16 e17 e18 e19 e20 e21 e22 e23 e24 e25 e26 e27 e28 e29 e30 e31 e32 e33 e34 e35 e36 e37 e38 e39 : Array Edge} {r0 r1 r2 r3 r4 r5 : Nat}
variable {r6 r7 r8 r9 r10 r11 r12 r13 : Nat}
variable {E : REnv} {m sS B R t1 t2 t3 t4 T : Nat} {N : Nat} {us us2 : Array TypeId} {fs : List Fld} {c : Code} {dc : List Value} {ver : Int} {a : Act} {w w0 : World} {oa : Option Addr} {bs : Bs} {cap : Nat} {fnD : FuncId} {Q : Exit → Act → World → Prop}
theorem read_start (hN : a.tmps.size = N) (hD : a.defers = []) (h0 : get a 0 = .pointer (some ⟨B, 0, none⟩)) (h1 : get a 1 = .slice oa bs.length cap) (hF : (decide ((0 :: 1 :: 2 :: 6 :: 7 :: 8 :: 9 :: 10 :: [t1, t2, t3, t4]).Nodup) && [0, 1, 2, 6, 7, 8, t1, t2, t3, t4].all (fun t => decide (t < N))) = true)
    (hen : Enters Tryd.prog fnD) (hdef : DefM fnD dc) {v : Value} (hb : Blk w B (v :: dc) T) (hsrc : zau w (fun g => g ≠ B) oa bs) (hcap : bs.length ≤ cap) (hlim : bs.length ≤ RLIM) (hBE : B ≠ gE) (herr : ErrW w)
    (hK : ∀ a' w' R, za3 (fun t => t = 0 ∨ t = 1 ∨ t = 2) a a' → get a' 7 = .pointer (some ⟨R, 0, none⟩) → RdS w' (fun g => ¬ (g = B ∨ g = R)) R (some bs) → Blk w' B (v :: dc) T → Chg (fun k => k = B) w w' → w.heap.size ≤ R → R < w'.heap.size → R ≠ B → ErrW w' → c.wp Tryd.prog Q a' w') :
    (Code.seq (.region r0 #[⟨some 6, .assign (.const .nilIface), y0, q0, e0, none⟩] false) (.seq (.region r1 #[⟨some t1, .move (.tmp 0), y1, q1, e1, none⟩, ⟨some t2, .call { callee := .value (.func fnD), args := #[.tmp t1], argTypes := us }, y2, q2, e2, none⟩] false)
      (.seq (.region r2 #[⟨some t3, .move (.tmp 1), y3, q3, e3, none⟩, ⟨some t4, .build tR #[(0, .tmp t3)], y4, q4, e4, none⟩, ⟨some 7, .alloc tR, y5, q5, e5, none⟩, ⟨none, .store tR (.tmp 7) (.tmp t4), y6, q6, e6, none⟩] false) c))).wp Tryd.prog Q a w := by
  simp only [Bool.and_eq_true, decide_eq_true_eq, List.all_eq_true] at hF
  obtain ⟨hnd, hlt⟩ := hF
  simp only [List.nodup_cons, List.mem_cons, List.not_mem_nil, or_false, not_or, List.nodup_nil, and_true, not_false_eq_true, forall_eq_or_imp, forall_eq] at hnd hlt
  have hB := hb.lt
  refine wp_seq_k fun K hK => ?_
  refine zag ?_
  refine zaB ?_
  refine zad (hK _ _ ?_)
  clear hK K
  refine wp_seq_k fun K hK => ?_
  refine zag ?_
  refine zaQ ?_
  simp only [zah, zaj, zae, zac, zak, ne_eq, zai, hN, hnd, hlt, not_false_eq_true, h0]
  refine zaC hen (by simp only [List.map_toArray, List.map_cons, List.map_nil, zah, zaj, zae, zac, zak, ne_eq, zai, hN, hnd, hlt, not_false_eq_true, h0]; exact hdef w B v T hb) ?_
  rintro u w1 ⟨hb1, hc1⟩
  refine zad (hK _ _ ?_)
  clear hK K
  refine wp_seq_k fun K hK => ?_
  refine zag ?_
  refine zaQ ?_
  simp only [zah, zaj, zae, zac, zak, ne_eq, zai, hN, hnd, hlt, not_false_eq_true, h1]
  refine wl_build (l := [.slice oa bs.length cap, .bool false]) (by simp only [List.map_toArray, List.map_cons, List.map_nil, zah, zaj, zae, zac, zak, ne_eq, zai, hN, hnd, hlt, not_false_eq_true]; kernel_rfl) ?_
  refine wl_allocA (z := zaJ [.slice none 0 0, .bool false]) (fun w => Tryd.zeroValue93 w) fun w2 hc2 hb2 hs2 => ?_
  refine zaU (b := w1.heap.size) (n := 2) (l' := [.slice oa bs.length cap, .bool false]) (by kernel_rfl) (by simp only [zah, zaj, zae, zac, zak, ne_eq, zai, hN, hnd, hlt, not_false_eq_true]) (by simp only [zah, zaj, zae, zac, zak, ne_eq, zai, hN, hnd, hlt, not_false_eq_true]) hb2 rfl (by intro y hy; simp only [List.mem_cons, List.not_mem_nil, or_false] at hy; rcases hy with rfl | rfl <;> rfl) rfl fun w3 hb3 hc3 => ?_
  refine zad (hK _ _ ?_)
  clear hK K
  have g7 : get ((((((a.put (some 6) .nilIface).put (some t1) (.pointer (some ⟨B, 0, none⟩))).put (some t2) u).put (some t3) (.slice oa bs.length cap)).put (some t4) (zaJ [.slice oa bs.length cap, .bool false])).put (some 7) (.pointer (some ⟨w1.heap.size, 0, none⟩))) 7 = .pointer (some ⟨w1.heap.size, 0, none⟩) := zae (by simp only [zai, hN, hlt])
  have hz : ∀ t, t = t1 ∨ t = t2 ∨ t = t3 ∨ t = t4 ∨ t = 6 ∨ t = 7 → ¬ (t = 0 ∨ t = 1 ∨ t = 2) := by
    intro t ht h
    rcases ht with ht | ht | ht | ht | ht | ht <;> rcases h with h | h | h <;> (rw [ht] at h; first | (exact absurd h (by decide)) | (rw [h] at hnd; simp at hnd))
  clear hnd
  have hs1 := hc1.size
  have hc13 : Chg (fun _ => False) w1 w3 := hc2.trans hc3 fun n hn h => by omega
  have hcall : Chg (fun k => k = B) w w3 := hc1.trans hc13 fun _ _ h => h.elim
  have hpn : ∀ x : Act, x.put none undef = x := fun _ => rfl
  rw [hpn]
  have hk : za3 (fun t => t = 0 ∨ t = 1 ∨ t = 2) a ((((((a.put (some 6) .nilIface).put (some t1) (.pointer (some ⟨B, 0, none⟩))).put (some t2) u).put (some t3) (.slice oa bs.length cap)).put (some t4) (zaJ [.slice oa bs.length cap, .bool false])).put (some 7) (.pointer (some ⟨w1.heap.size, 0, none⟩))) :=
    ((((((za3.refl _ _).put (hz 6 (by simp)) _).put (hz t1 (by simp)) _).put (hz t2 (by simp)) _).put (hz t3 (by simp)) _).put (hz t4 (by simp)) _).put (hz 7 (by simp)) _
  refine hK _ w3 w1.heap.size hk g7 ?_ (hb1.chg hc13 fun h => h) hcall hs1 (by have := hb3.lt; omega) (by have := hb1.lt; omega) (herr.chg hcall fun h => hBE h.symm)
  exact ⟨oa, cap, hb3, hcap, hsrc.stay ⟨fun k hk hg => ⟨hcall.block k hk hg, fun h => by rcases h with h | h; exact hg h; omega⟩⟩⟩
theorem gE_lt {w : World} (h : ErrW w) : gE < w.heap.size := by
  obtain ⟨_, _, _, h2⟩ := h
  cases hh : w.heap[gE]? with
  | none => simp [ldOK, World.cell?, hh] at h2
  | some o => exact (Array.getElem?_eq_some_iff.1 hh).1
end
end Go.Proofs.YtgjnllebnkjofaaDoor
namespace Go.Proofs.YtgjnllebnkjofaaDoor
set_option linter.all false
open Go.RowKit
set_option maxRecDepth 10000
set_option maxHeartbeats 2000000
theorem less_take (k : Nat) : Less (take? k) := fun bs x r h => by
  unfold take? at h
  split at h
  · simp only [Option.some.injEq, Prod.mk.injEq] at h; rw [← h.2, List.length_drop]; omega
  · cases h
theorem less_map {α β : Type} {s : Bs → Option (α × Bs)} (g : α → β) (h : Less s) : Less (fun bs => (s bs).map fun x => (g x.1, x.2)) := fun bs x r hs => by
  dsimp only at hs
  cases hh : s bs with
  | none => rw [hh] at hs; cases hs
  | some y =>
    rw [hh] at hs
    simp only [Option.map_some, Option.some.injEq, Prod.mk.injEq] at hs
    have := h bs y.1 y.2 hh
    rw [hs.2] at this; exact this
theorem less_bind {α β : Type} {s : Bs → Option (α × Bs)} {g : α × Bs → Option (β × Bs)} (h : Less s) (hg : ∀ y x r, g y = some (x, r) → r.length ≤ y.2.length) : Less (fun bs => (s bs).bind g) := fun bs x r hs => by
  dsimp only at hs
  cases hh : s bs with
  | none => rw [hh] at hs; cases hs
  | some y =>
    rw [hh, Option.bind_some] at hs
    have h1 := h bs y.1 y.2 hh
    have h2 := hg y x r hs
    omega
theorem less_rS (k : Nat) : Less (rS k) := less_map (fun x => sgn k (unbe x)) (less_take k)
theorem less_span (l : Int) : Less (rSpan l) := fun bs x r h => by
  unfold rSpan at h
  split at h
  · exact less_take _ bs x r h
  · cases h
theorem less_uvar : Less rUvar := by
  intro bs x r h
  unfold rUvar at h
  repeat' (split at h)
  all_goals first | (cases h; done) | skip
  all_goals (simp only [Option.some.injEq, Prod.mk.injEq] at h; obtain ⟨_, rfl⟩ := h; simp only [List.length_cons]; omega)
theorem less_str (flex : Bool) : Less (rStr flex) := by
  cases flex with
  | true => exact less_bind (s := rUvar) (g := fun x => rSpan ((x.1 : Int) - 1) x.2) less_uvar fun y x r h => less_span _ y.2 x r h
  | false => exact less_bind (s := rS 2) (g := fun x => rSpan x.1 x.2) (less_rS 2) fun y x r h => less_span _ y.2 x r h
theorem co_en : Enters Tryd.prog 54 := (fun args w => Tryd.call54 args w)
section
variable {y0 y1 y2 y3 y4 y5 y6 y7 y8 y9 y10 y11 y12 y13 y14 y15 y16 y17 y18 y19 y20 y21 y22 y23 y24 y25 y26 y27 y28 y29 y30 y31 y32 y33 y34 y35 y36 y37 y38 y39 : TypeId} {q0 q1 q2 q3 q4 q5 q6 q7 q8 q9 q10 q11 q12 q13 q14 q15 q16 q17 q18 q19 q20 q21 q22 q23 q24 q25 q26 q27 q28 q29 q30 q31 q32 q33 q34 q35 q36 q37 q38 q39 : String} {e0 e1 e2 e3 e4 e5 e6 e7 e8 e9 e10 e11 e12 e13 e14 e15 e16 e17 e18 e19 e20 e21 e22 e23 e24 e25 e26 e27 e28 e29 e30 e31 e32 e33 e34 e35 e36 e37 e38 e39 : Array Edge} {r0 r1 r2 r3 r4 r5 : Nat}
variable {r6 r7 r8 r9 r10 r11 r12 r13 : Nat}
variable {E : REnv} {m mB sS k0 i I x y ys aS iS lS vS t t1 t2 t3 t4 t5 t6 t7 t8 t9 t10 t11 t12 t13 t14 t15 t16 t17 w1' w2' w3' w4' w5' u1 u2 u3 u4 u5 v1 v2 v3 v4 b1 b2 ug uo uc ui : Nat} {fs sub : List Fld} {pre : S → Prop} {c c1 c2 body cl cn cr : Code} {us us2 us3 : Array TypeId} {fn : FuncId} {T ty ti idx off ua uoT tyV tyW tyE sz : Nat} {a1 a2 a3 a4 a5 : Int} {of : K} {z : Value} {f : Fld} {sem : Bs → Option (D × Bs)} {tl semS : Sem}
theorem RvC.to {sem' : Bs → Option (D × Bs)} (h : RvC E m x f sem c) (e : sem' = sem) : RvC E m x f sem' c := by rw [e]; exact h
theorem rv_int {k : K} {kd : IntKind} {semA : Bs → Option (Int × Bs)} (hen : Enters Tryd.prog fn) (hc : RdF fn [] semA (outI kd)) (hl : Less semA) (he : ∀ bs, decF E.flex E.ver (.mk k a1 a2 a3 a4 a5 of sub) bs = (semA bs).map fun y => (.int y.1, y.2))
    (hr : ∀ w G n, RepF w G E.fl (.mk k a1 a2 a3 a4 a5 of sub) (.int n) [.int kd n]) (hsl : rsl E m [t1, x] [7] = true) :
    RvC E m x (.mk k a1 a2 a3 a4 a5 of sub) (decF E.flex E.ver (.mk k a1 a2 a3 a4 a5 of sub)) (.region r0 #[⟨some t1, .call { callee := .value (.func fn), args := #[.tmp 7], argTypes := us }, y0, q0, e0, none⟩, ⟨some x, .assign (.tmp t1), y1, q1, e1, none⟩] false) :=
  (rv_call (fun n => .int n) hen hc (fun w w' O R y v hn hcg ho => by cases (ho : v = .int kd y); exact ⟨rfl, rfl, hr _ _ _⟩) hl hsl).to (funext he)
theorem rv_i16 (hsl : rsl E m [t1, x] [7] = true) : RvC E m x (.mk .i16 a1 a2 a3 a4 a5 of sub) (decF E.flex E.ver (.mk .i16 a1 a2 a3 a4 a5 of sub)) (.region r0 #[⟨some t1, .call { callee := .value (.func 53), args := #[.tmp 7], argTypes := us }, y2, q2, e2, none⟩, ⟨some x, .assign (.tmp t1), y3, q3, e3, none⟩] false) :=
  rv_int (fun args w => Tryd.call53 args w) Int16_c (less_rS 2) (fun _ => rfl) (fun _ _ _ => by unfold RepF; rfl) hsl
theorem rv_str {k : K} {s : Bool} {g : Bs → D} (hen : Enters Tryd.prog fn) (hc : RdF fn [] (rStr s) outS) (he : ∀ bs, decF E.flex E.ver f bs = (rStr s bs).map fun y => (g y.1, y.2))
    (hr : ∀ w G l, RepF w G E.fl f (g l) [.string ⟨l.toArray⟩]) (hsl : rsl E m [t1, x] [7] = true) :
    RvC E m x f (decF E.flex E.ver f) (.region r0 #[⟨some t1, .call { callee := .value (.func fn), args := #[.tmp 7], argTypes := us }, y6, q6, e6, none⟩, ⟨some x, .assign (.tmp t1), y7, q7, e7, none⟩] false) :=
  (rv_call g hen hc (fun w w' O R y v hn hcg ho => by cases (ho : v = .string ⟨y.toArray⟩); exact ⟨rfl, rfl, hr _ _ _⟩) (less_str s) hsl).to (funext he)
theorem decF_text (h : a3 < 0) (bs : Bs) : decF E.flex E.ver (.mk .text a1 a2 a3 a4 a5 of sub) bs = (rStr E.flex bs).map fun y => (.str y.1, y.2) := by
  unfold decF; dsimp only; rw [if_pos h]; rfl
theorem repF_text (h : a3 < 0) (w : World) (G : Nat → Prop) (l : Bs) : RepF w G E.fl (.mk .text a1 a2 a3 a4 a5 of sub) (.str l) [.string ⟨l.toArray⟩] := by
  unfold RepF; dsimp only; rw [if_pos h]; rfl
theorem rv_string (h : decide (a3 < 0) = true) (hx : E.flex = false) (hsl : rsl E m [t1, x] [7] = true) : RvC E m x (.mk .text a1 a2 a3 a4 a5 of sub) (decF E.flex E.ver (.mk .text a1 a2 a3 a4 a5 of sub)) (.region r0 #[⟨some t1, .call { callee := .value (.func 57), args := #[.tmp 7], argTypes := us }, y0, q0, e0, none⟩, ⟨some x, .assign (.tmp t1), y1, q1, e1, none⟩] false) :=
  rv_str (k := .text) (s := false) (g := .str) (fun args w => Tryd.call57 args w) String_c (fun bs => by rw [decF_text (of_decide_eq_true h), hx]) (repF_text (of_decide_eq_true h)) hsl
theorem tlP_no (hx : E.flex = false) : tlP E fs = fun s bs => some (s, bs) := by
  funext s bs; unfold tlP; rw [hx]; rfl
theorem rt_noflex (hx : E.flex = false) (h : RtC E m sS k0 fs (fun _ => True) (fun s bs => some (s, bs)) c) : RtC E m sS k0 fs (fun _ => True) (tlP E fs) c := by rw [tlP_no hx]; exact h
theorem rd_noflex (hx : E.flex = false) (h : RdC E m sS k0 fs I pre (semL E fs i fun s bs => some (s, bs)) c) : RdC E m sS k0 fs I pre (semL E fs i (tlP E fs)) c := by rw [tlP_no hx]; exact h
end
end Go.Proofs.YtgjnllebnkjofaaDoor
namespace Go.Proofs.YtgjnllebnkjofaaDoor
set_option linter.all false
open Go.RowKit
set_option maxRecDepth 10000
set_option maxHeartbeats 1000000
section
variable {y0 y1 y2 y3 y4 y5 y6 y7 y8 y9 y10 y11 y12 y13 y14 y15 y16 y17 y18 y19 y20 y21 y22 y23 y24 y25 y26 y27 y28 y29 y30 y31 y32 y33 y34 y35 y36 y37 y38 y39 : TypeId} {q0 q1 q2 q3 q4 q5 q6 q7 q8 q9 q10 q11 q12 q13 q14 q15 q16 q17 q18 q19 q20 q21 q22 q23 q24 q25 q26 q27 q28 q29 q30 q31 q32 q33 q34 q35 q36 q37 q38 q39 : String} {e0 e1 e2 e3 e4 e5 e6 e7 e8 e9 e10 e11 e12 e13 e14 e15 e16 e17 e18 e19 e20 e21 e22 e23 e24 e25 e26 e27 e28 e29 e30 e31 e32 e33 e34 e35 e36 e37 e38 e39 : Array Edge} {r0 r1 r2 r3 r4 r5 : Nat}
variable {E : REnv} {m sS k0 i I x y t1 t2 t3 t4 t5 T ty idx : Nat} {us : Array TypeId} {f : Fld} {fs : List Fld} {pre : S → Prop} {sem : Bs → Option (D × Bs)} {fn : FuncId} {a1 a2 a3 a4 a5 : Int} {of : K} {sub : List Fld} {c : Code}
end
end Go.Proofs.YtgjnllebnkjofaaDoor
