import Derived.Test.YtgjnllebnkjofaaDoorZN
import Derived.Test.YtgjnllebnkjofaaDoorZY
/-
What the proofs of the laws rest on, part ZQ.
-/
namespace Go.Proofs.YtgjnllebnkjofaaDoor
set_option linter.all false
open Go.RowKit
set_option maxRecDepth 10000
set_option maxHeartbeats 2000000
def ReadKP (w : World) (ver : Int) (fs : List Fld) (B : Nat) (bs : Bs) (v : Value) (w' : World) : Prop := Chg (fun k => k = B) w w' ∧
  ((zaF false ver fs bs = none ∧ ∃ t x, v = .iface t x) ∨ ∃ s r, zaF false ver fs bs = some (s, r) ∧ v = .nilIface ∧ At w' (fun g => g ≠ B) false fs s B 0)
def ReadsK (fn : FuncId) (ok : Int → Prop) (fs : List Fld) (dc : List Value) : Prop :=
  ∀ (ver : Int) (w : World) (B : Nat) (T : TypeId) (oa : Option Addr) (bs : Bs) (cap : Nat), ok ver → (∀ y, rS 2 bs = some y → y.1 = ver) → Blk w B (.int .i16 0 :: dc) T → zau w (fun g => g ≠ B) oa bs → bs.length ≤ cap → bs.length ≤ RLIM → B ≠ gE → ErrW w →
    zaD Tryd.prog fn #[.pointer (some ⟨B, 0, none⟩), .slice oa bs.length cap, .bool false] w (ReadKP w ver fs B bs)
section
variable {y0 y1 y2 y3 y4 y5 y6 y7 y8 y9 y10 y11 y12 y13 y14 y15 y16 y17 y18 y19 y20 y21 y22 y23 y24 y25 y26 y27 y28 y29 y30 y31 y32 y33 y34 y35 y36 y37 y38 y39 : TypeId} {q0 q1 q2 q3 q4 q5 q6 q7 q8 q9 q10 q11 q12 q13 q14 q15 q16 q17 q18 q19 q20 q21 q22 q23 q24 q25 q26 q27 q28 q29 q30 q31 q32 q33 q34 q35 q36 q37 q38 q39 : String} {e0 e1 e2 e3 e4 e5 e6 e7 e8 e9 e10 e11 e12 e13 e14 e15 e16 e17 e18 e19 e20 e21 e22 e23 e24 e25 e26 e27 e28 e29 e30 e31 e32 e33 e34 e35 e36 e37 e38 e39 : Array Edge} {r0 r1 r2 r3 r4 r5 : Nat}
variable {r6 r7 r8 r9 r10 r11 r12 r13 : Nat} {us us1 us2 us3 us4 : Array TypeId}
theorem read_kept {ok : Int → Prop} {fn : FuncId} {func : Func} {N t1 t2 t3 t4 T ty ty2 v1 v2 v3 v4 v5 v6 u1 u2 u3 u4 fnD : Nat} {fr : Int} {fs1 : List Fld} {c : Code} {dc : List Value} (h0k : ok 0) (hokr : ∀ ver, ok ver → fr ≤ ver)
    (hfn : (Tryd.prog).funcs[fn]? = some func)
    (hbody : func.body = some (.seq (.region r0 #[⟨some 6, .assign (.const .nilIface), y0, q0, e0, none⟩] false) (.seq (.region r1 #[⟨some t1, .move (.tmp 0), y1, q1, e1, none⟩, ⟨some t2, .call { callee := .value (.func fnD), args := #[.tmp t1], argTypes := us }, y2, q2, e2, none⟩] false)
      (.seq (.region r2 #[⟨some t3, .move (.tmp 1), y3, q3, e3, none⟩, ⟨some t4, .build tR #[(0, .tmp t3)], y4, q4, e4, none⟩, ⟨some 7, .alloc tR, y5, q5, e5, none⟩, ⟨none, .store tR (.tmp 7) (.tmp t4), y6, q6, e6, none⟩] false)
        (.seq (.region r5 #[⟨some u1, .move (.tmp 0), y7, q7, e7, none⟩, ⟨some u2, .call { callee := .value (.func 53), args := #[.tmp 7], argTypes := us2 }, y8, q8, e8, none⟩, ⟨some u3, .nilCheck (.tmp u1), y9, q9, e9, none⟩, ⟨some u4, .fieldAddr T (.tmp u3) 0, y10, q10, e10, none⟩, ⟨none, .store ty2 (.tmp u4) (.tmp u2), y11, q11, e11, none⟩] false)
        (.seq (.region r3 #[⟨some v1, .move (.tmp 0), y12, q12, e12, none⟩, ⟨some v2, .nilCheck (.tmp v1), y13, q13, e13, none⟩, ⟨some v3, .fieldAddr T (.tmp v2) 0, y14, q14, e14, none⟩, ⟨some v4, .load ty (.tmp v3), y15, q15, e15, none⟩, ⟨some 8, .assign (.tmp v4), y16, q16, e16, none⟩] false)
        (.seq (.region r4 #[⟨some v5, .move (.tmp 8), y17, q17, e17, none⟩] false) (.seq (.region r7 #[⟨some v6, .move (.tmp 0), y18, q18, e18, none⟩, ⟨some 9, .assign (.tmp v6), y19, q19, e19, none⟩] false) c))))))))
    (hres : func.results = #[.tmp 6]) (hNf : func.ntmps = N) (hen : Enters Tryd.prog fnD) (hdef : DefM fnD dc)
    (hF : ((decide ((0 :: 1 :: 2 :: 6 :: 7 :: 8 :: 9 :: 10 :: [t1, t2, t3, t4]).Nodup) && [0, 1, 2, 6, 7, 8, t1, t2, t3, t4].all (fun t => decide (t < N))) && decide ((0 :: 1 :: 2 :: 7 :: 8 :: 9 :: 10 :: [v1, v2, v3, v4, v5, v6, u1, u2, u3, u4]).Nodup) && [8, 9, 10, v1, v2, v3, v4, v5, v6, u1, u2, u3, u4].all (fun t => decide (t < N)) && fieldB Tryd.prog T 0 0 1 && scalB Tryd.prog ty && sizeB Tryd.prog ty2 1 &&
      repSB false fs1 (dfltL fs1) dc && decide (dc.length = ssz false fs1)) = true)
    (h : ∀ ver : Int, ok ver → RtC ⟨N, ver, false, false⟩ 10 9 0 (.mk .i16 fr (-1) (-1) (-1) 0 .bool [] :: fs1) (Fresh (.mk .i16 fr (-1) (-1) (-1) 0 .bool [] :: fs1) 1) (semL ⟨N, ver, false, false⟩ (.mk .i16 fr (-1) (-1) (-1) 0 .bool [] :: fs1) 1 (tlP ⟨N, ver, false, false⟩ (.mk .i16 fr (-1) (-1) (-1) 0 .bool [] :: fs1))) c) :
    ReadsK fn ok (.mk .i16 fr (-1) (-1) (-1) 0 .bool [] :: fs1) dc := by
  simp only [Bool.and_eq_true, decide_eq_true_eq (p := List.Nodup _), decide_eq_true_eq (p := dc.length = _)] at hF
  obtain ⟨⟨⟨⟨⟨⟨⟨hF0, hnd⟩, hlt⟩, f1⟩, f2⟩, f5⟩, f3⟩, f4⟩ := hF
  simp only [List.all_eq_true, decide_eq_true_eq] at hlt
  simp only [List.nodup_cons, List.mem_cons, List.not_mem_nil, or_false, not_or, List.nodup_nil, and_true, not_false_eq_true, forall_eq_or_imp, forall_eq] at hnd hlt
  intro ver w B Tm oa bs cap hver hvr hb hsrc hcap hlim hBE herr
  refine zaA hfn hbody hres hNf (by show 3 ≤ N; omega) ?_
  intro a hN hD ha
  have h0 : get a 0 = .pointer (some ⟨B, 0, none⟩) := ha 0 _ rfl
  have h1 : get a 1 = .slice oa bs.length cap := ha 1 _ rfl
  have h2 : get a 2 = .bool false := ha 2 _ rfl
  refine read_start hN hD h0 h1 (by simp only [Bool.and_eq_true]; exact ⟨decide_eq_true hF0.1, hF0.2⟩) hen hdef hb hsrc hcap hlim hBE herr fun a1 w1 R hk g7 hr hb1 hc hR1 hR2 hRB herr1 => ?_
  have hN1 : a1.tmps.size = N := hk.size.trans hN
  have hD1 : a1.defers = [] := hk.defers.trans hD
  have g0 : get a1 0 = .pointer (some ⟨B, 0, none⟩) := (hk.slot 0 (.inl rfl)).trans h0
  have g2 : get a1 2 = .bool false := (hk.slot 2 (.inr (.inr rfl))).trans h2
  clear hF0 hk ha h0 h1 h2
  have hgE := gE_lt herr
  have hBlt := hb.lt
  refine wp_seq_k fun K hK => ?_
  refine zag ?_
  refine zaQ ?_
  simp only [zah, zaj, zae, zac, zak, ne_eq, zai, hN1, hnd, hlt, not_false_eq_true, g0, g2, g7]
  refine zaC (fun args w => Tryd.call53 args w) (by
    simp only [List.map_toArray, List.map_cons, List.map_nil, zah, zaj, zae, zac, zak, ne_eq, zai, hN1, hnd, hlt, not_false_eq_true, g0, g2, g7]
    exact Int16_z w1 (fun g => ¬ (g = B ∨ g = R)) R (some bs) hr (fun h => h (.inr rfl)) (fun k hk h => by rcases h with h | h; have := hb1.lt; omega; omega)) ?_
  rintro xv w2 ⟨hq, hz⟩
  obtain ⟨x, rfl, hx⟩ := hq.val
  have hrd := hq.rd
  have hc2 := hq.chg
  have hxo : ok x := by
    cases hh : rS 2 bs with
    | none => have := hz hh; cases this; exact h0k
    | some y => rw [hx y hh, hvr y hh]; exact hver
  have hsem : zaF false ver (.mk .i16 fr (-1) (-1) (-1) 0 .bool [] :: fs1) bs = ((rS 2 bs).map (·.2)).bind (semL ⟨N, x, false, false⟩ (.mk .i16 fr (-1) (-1) (-1) 0 .bool [] :: fs1) 1 (tlP ⟨N, x, false, false⟩ (.mk .i16 fr (-1) (-1) (-1) 0 .bool [] :: fs1)) ⟨(dfltL (.mk .i16 fr (-1) (-1) (-1) 0 .bool [] :: fs1)).set 0 (.int x), []⟩) := by
    have e := part_sem ⟨N, ver, false, false⟩ (.mk .i16 fr (-1) (-1) (-1) 0 .bool [] :: fs1) bs
    refine e.trans ?_
    rw [semL_step (f := .mk .i16 fr (-1) (-1) (-1) 0 .bool []) rfl (fresh0 _) (dfltL_len _)]
    unfold semFld
    have hhas : (decide ((Fld.mk .i16 fr (-1) (-1) (-1) 0 .bool []).tag < 0) && (Fld.mk .i16 fr (-1) (-1) (-1) 0 .bool []).has ver) = true := by
      have := hokr ver hver
      simp [Fld.tag, Fld.has, Fld.from_, Fld.to, this]
    rw [if_pos hhas]
    unfold semSet
    have hd : decF false ver (.mk .i16 fr (-1) (-1) (-1) 0 .bool []) bs = (rS 2 bs).map fun y => (.int y.1, y.2) := by unfold decF; rfl
    rw [hd]
    cases hh : rS 2 bs with
    | none => rfl
    | some y =>
      have e1 := hx y hh
      have e2 := hvr y hh
      obtain ⟨y1, y2⟩ := y
      simp only at e1 e2
      subst e1 e2
      rfl
  have hb2 : Blk w2 B (.int .i16 0 :: dc) Tm := hb1.chg hc2 (fun e => hRB e.symm)
  refine wl_nilCheck (p := ⟨B, 0, none⟩) (by simp only [zah, zaj, zae, zac, zak, ne_eq, zai, hN1, hnd, hlt, not_false_eq_true, g0, g2, g7]) ?_
  refine wl_fieldAddr (b := B) (o := 0) f1 (by simp only [zah, zaj, zae, zac, zak, ne_eq, zai, hN1, hnd, hlt, not_false_eq_true, g0, g2, g7]) ?_
  refine wl_store (b := B) (o := 0 + 0) (n := 1) (v := .int .i16 x) f5 (by simp only [zah, zaj, zae, zac, zak, ne_eq, zai, hN1, hnd, hlt, not_false_eq_true, g0, g2, g7]) (by simp only [zah, zaj, zae, zac, zak, ne_eq, zai, hN1, hnd, hlt, not_false_eq_true, g0, g2, g7]) hb2 rfl (by intro y hy; simp only [Value.cells, List.mem_singleton] at hy; subst hy; rfl) (by simp) fun w3 hb3 hc3 => ?_
  refine zad (hK _ _ ?_)
  clear hK K
  rw [put_none]
  have hcs : zaL (Value.int .i16 0 :: dc) (0 + 0) (Value.int .i16 x).cells.toList = .int .i16 x :: dc := by simp only [zaL, Nat.zero_add, List.take_zero, List.nil_append]; rfl
  rw [hcs] at hb3
  have hrd3 : RdS w3 (fun g => ¬ (g = B ∨ g = R)) R ((rS 2 bs).map (·.2)) := hrd.stay (Stay.of hc3 fun k hk _ e => hk (.inl e)) (hc3.block R hrd.lt hRB)
  have hall : Chg (fun k => k = B) w w3 := (hc.trans hc2 fun k hk e => by omega).trans hc3 fun _ _ e => e
  refine wp_seq_k fun K hK => ?_
  refine zag ?_
  refine zaQ ?_
  simp only [zah, zaj, zae, zac, zak, ne_eq, zai, hN1, hnd, hlt, not_false_eq_true, g0, g2, g7]
  refine wl_nilCheck (p := ⟨B, 0, none⟩) (by simp only [zah, zaj, zae, zac, zak, ne_eq, zai, hN1, hnd, hlt, not_false_eq_true, g0, g2, g7]) ?_
  refine wl_fieldAddr (b := B) (o := 0) f1 (by simp only [zah, zaj, zae, zac, zak, ne_eq, zai, hN1, hnd, hlt, not_false_eq_true, g0, g2, g7]) ?_
  refine zaE (b := B) (o := 0 + 0) f2 (by simp only [zah, zaj, zae, zac, zak, ne_eq, zai, hN1, hnd, hlt, not_false_eq_true, g0, g2, g7]) hb3 rfl ?_
  refine zaB ?_
  simp only [zah, zaj, zae, zac, zak, ne_eq, zai, hN1, hnd, hlt, not_false_eq_true, g0, g2, g7]
  refine zad (hK _ _ ?_)
  clear hK K
  refine wp_seq_k fun K hK => ?_
  refine zag ?_
  refine zaQ ?_
  simp only [zah, zaj, zae, zac, zak, ne_eq, zai, hN1, hnd, hlt, not_false_eq_true, g0, g2, g7]
  refine zad (hK _ _ ?_)
  clear hK K
  refine wp_seq_k fun K hK => ?_
  refine zag ?_
  refine zaQ ?_
  simp only [zah, zaj, zae, zac, zak, ne_eq, zai, hN1, hnd, hlt, not_false_eq_true, g0, g2, g7]
  refine zaB ?_
  simp only [zah, zaj, zae, zac, zak, ne_eq, zai, hN1, hnd, hlt, not_false_eq_true, g0, g2, g7]
  refine zad (hK _ _ ?_)
  clear hK K
  have hlim3 : stLen ((rS 2 bs).map (·.2)) ≤ RLIM := by
    cases hh : rS 2 bs with
    | none => exact Nat.zero_le _
    | some y =>
      have : y.2.length ≤ bs.length := by
        unfold rS take? at hh
        split at hh
        · simp only [Option.map_some, Option.some.injEq] at hh; rw [← hh]; simp only [List.length_drop]; omega
        · cases hh
      exact Nat.le_trans this hlim
  have hE3 := herr.chg hall (fun e => hBE e.symm)
  have hat : At w3 (fun g => ¬ (g = B ∨ g = R)) false (.mk .i16 fr (-1) (-1) (-1) 0 .bool [] :: fs1) ⟨(dfltL (.mk .i16 fr (-1) (-1) (-1) 0 .bool [] :: fs1)).set 0 (.int x), []⟩ B (0 + 0) := by
    clear hnd
    obtain ⟨p1, p2, e, k1, k2⟩ := (repSB_out f3 : RepS w3 (fun g => ¬ (g = B ∨ g = R)) false fs1 ⟨dfltL fs1, []⟩ dc)
    have hl : ssz false (.mk .i16 fr (-1) (-1) (-1) 0 .bool [] :: fs1) = 1 + dc.length := by
      rw [f4]; simp [ssz, lsz, fsz, ksz]
    refine ⟨.int .i16 x :: dc, Tm, hb3, by rw [hl]; simp only [List.length_cons]; omega, ?_⟩
    rw [List.drop_zero, List.take_of_length_le (by rw [hl]; simp only [List.length_cons]; omega)]
    refine ⟨.int .i16 x :: p1, p2, by rw [e]; rfl, ?_, k2⟩
    show RepL _ _ _ (_ :: fs1) (.int x :: dfltL fs1) _
    unfold RepL
    exact ⟨.int x, dfltL fs1, [.int .i16 x], p1, rfl, rfl, rfl, by unfold RepF; rfl, k1⟩
  refine wp_mono (h x hxo _ w3 (fun g => g = B ∨ g = R) R B 0 ((rS 2 bs).map (·.2)) ⟨(dfltL (.mk .i16 fr (-1) (-1) (-1) 0 .bool [] :: fs1)).set 0 (.int x), []⟩
    ⟨⟨by simp only [zai, hN1], by simp only [zab, hD1], by simp only [zah, zaj, zae, zac, zak, ne_eq, zai, hN1, hnd, hlt, not_false_eq_true, g0, g2, g7], by simp only [zah, zaj, zae, zac, zak, ne_eq, zai, hN1, hnd, hlt, not_false_eq_true, g0, g2, g7], fun e => by cases e⟩, by simp only [zah, zaj, zae, zac, zak, ne_eq, zai, hN1, hnd, hlt, not_false_eq_true, g0, g2, g7], hrd3, .inr rfl, fun h => by clear hnd; rcases h with h | h; exact hBE h.symm; omega, hE3, fun k hk h => by clear hnd; have := hb3.lt; have := hrd3.lt; rcases h with h | h <;> omega, hlim3⟩
    ⟨by simp only [zah, zaj, zae, zac, zak, ne_eq, zai, hN1, hnd, hlt, not_false_eq_true, g0, g2, g7], hat, .inl rfl, hRB⟩ ?_) ?_
  · intro j f hj hf
    rw [List.getElem?_set_ne (by omega)]
    exact dfltL_get _ j f hf
  · clear hnd
    intro e a4 w4 hq
    cases e <;> try exact hq.elim
    obtain ⟨hd, hq⟩ := hq
    refine ⟨hd, ?_⟩
    rw [← hsem] at hq
    rcases hq with ⟨k1, ⟨t, xx, k2⟩, k3⟩ | ⟨s, r, k1, k2, k3, k4, k5⟩
    · exact ⟨hall.trans k3 fun k hk h => by rcases h with h | h; exact h; omega, .inl ⟨k1, t, xx, k2⟩⟩
    · refine ⟨hall.trans k3 fun k hk h => by rcases h with h | h; omega; exact h, .inr ⟨s, r, k1, k2, ?_⟩⟩
      rw [Nat.zero_add] at k4
      exact k4.stay (Stay.sub fun k _ h hb => h (.inl hb)) rfl
end
end Go.Proofs.YtgjnllebnkjofaaDoor
namespace Go.Proofs.YtgjnllebnkjofaaDoor
set_option linter.all false
open Go.RowKit
set_option maxRecDepth 10000
set_option maxHeartbeats 2000000
abbrev verF (fr : Int) : Fld := .mk .i16 fr (-1) (-1) (-1) 0 .bool []
theorem kp_dec {fr ver : Int} {fs : List Fld} {bs : Bs} (hf : fr ≤ ver) : zaF false ver (verF fr :: fs) bs = (rS 2 bs).bind fun y => (zaF false ver fs y.2).map fun z => (⟨.int y.1 :: z.1.ds, []⟩, z.2) := by
  have hd : decF false ver (verF fr) bs = (rS 2 bs).map fun y => (.int y.1, y.2) := by unfold verF decF; rfl
  have hh : (decide ((verF fr).tag < 0) && (verF fr).has ver) = true := by simp [verF, Fld.tag, Fld.has, Fld.from_, Fld.to, hf]
  unfold zaF partOf
  rw [decL, if_pos hh, hd]
  cases h : rS 2 bs with
  | none => rfl
  | some y =>
    simp only [Option.map_some, Option.bind_some]
    cases h2 : decL false ver fs y.2 with
    | none => rfl
    | some z => rfl
theorem kp_enc {fr ver x : Int} {fs : List Fld} {ds : List D} {t : za2} (hf : fr ≤ ver) : zaH false ver (verF fr :: fs) ⟨.int x :: ds, t⟩ = be 2 x ++ zaH false ver fs ⟨ds, t⟩ := by
  have hh : (decide ((verF fr).tag < 0) && (verF fr).has ver) = true := by simp [verF, Fld.tag, Fld.has, Fld.from_, Fld.to, hf]
  have he : encF false ver (verF fr) (.int x) = be 2 x := by unfold verF encF; rfl
  unfold zaH
  rw [encL, if_pos hh, he]
  simp
theorem kp_ver {fr ver : Int} {fs : List Fld} {bs : Bs} {s : S} {r : Bs} (hf : fr ≤ ver) (h : zaF false ver (verF fr :: fs) bs = some (s, r)) (hv : ∀ y, rS 2 bs = some y → y.1 = ver) : s.ds[0]? = some (.int ver) := by
  rw [kp_dec hf] at h
  cases hr : rS 2 bs with
  | none => rw [hr] at h; cases h
  | some y =>
    have := hv y hr
    rw [hr, Option.bind_some] at h
    cases h2 : zaF false ver fs y.2 with
    | none => rw [h2] at h; cases h
    | some z =>
      rw [h2] at h
      simp only [Option.map_some, Option.some.injEq, Prod.mk.injEq] at h
      rw [← h.1, ← this]
      rfl
theorem wf_allM {E : WEnv} {m k : Nat} {f : Fld} {d : D} {c : Code} {pre : Act → World → Nat → Prop} (hf : (decide (f.tag < 0) && decide (f.from_ ≤ -32768) && decide (f.to < 0)) = true) (hv : -32768 ≤ E.ver)
    (h : WrC E m k c pre (encF E.flex E.ver f d)) : WrC E m k c pre (fEnc E f d) := by
  simp only [Bool.and_eq_true, decide_eq_true_eq] at hf
  have e : (decide (f.tag < 0) && f.has E.ver) = true := by
    unfold Fld.has
    simp only [Bool.and_eq_true, Bool.or_eq_true, decide_eq_true_eq]
    omega
  unfold fEnc
  rw [if_pos e]; exact h
theorem sf_allM {E : REnv} {m sS k0 i I : Nat} {fs : List Fld} {f : Fld} {pre : S → Prop} {c : Code} (hf : (decide (f.tag < 0) && decide (f.from_ ≤ -32768) && decide (f.to < 0)) = true) (hv : -32768 ≤ E.ver) (h : RdC E m sS k0 fs I pre (semSet i (decF E.flex E.ver f)) c) : RdC E m sS k0 fs I pre (semFld E f i) c := by
  simp only [Bool.and_eq_true, decide_eq_true_eq] at hf
  have e : (decide (f.tag < 0) && f.has E.ver) = true := by
    unfold Fld.has
    simp only [Bool.and_eq_true, Bool.or_eq_true, decide_eq_true_eq]
    omega
  unfold semFld
  rw [if_pos e]; exact h
def AppendsK (fn : FuncId) (ok : Int → Prop) (fs : List Fld) : Prop :=
  ∀ (s : S) (ver : Int) (B : Nat) (w : World) (base : Nat) (v : Value) (bs : Bs), ok ver → s.ds[0]? = some (.int ver) → At w (fun g => g < base) false fs s B 0 → B < base → base ≤ w.heap.size →
    Own eB w base v bs → bs.length + (zaH false ver fs s).length ≤ LIM →
    zaD Tryd.prog fn #[.pointer (some ⟨B, 0, none⟩), v] w (App eB w base v (bs ++ zaH false ver fs s))
section
variable {y0 y1 y2 y3 y4 y5 y6 y7 y8 y9 y10 y11 y12 y13 y14 y15 y16 y17 y18 y19 y20 y21 y22 y23 y24 y25 y26 y27 y28 y29 y30 y31 y32 y33 y34 y35 y36 y37 y38 y39 : TypeId} {q0 q1 q2 q3 q4 q5 q6 q7 q8 q9 q10 q11 q12 q13 q14 q15 q16 q17 q18 q19 q20 q21 q22 q23 q24 q25 q26 q27 q28 q29 q30 q31 q32 q33 q34 q35 q36 q37 q38 q39 : String} {e0 e1 e2 e3 e4 e5 e6 e7 e8 e9 e10 e11 e12 e13 e14 e15 e16 e17 e18 e19 e20 e21 e22 e23 e24 e25 e26 e27 e28 e29 e30 e31 e32 e33 e34 e35 e36 e37 e38 e39 : Array Edge} {r0 r1 r2 r3 r4 r5 : Nat}
variable {r6 r7 r8 r9 r10 r11 r12 r13 : Nat} {us us1 us2 us3 us4 : Array TypeId}
theorem app_kept {ok : Int → Prop} {fn : FuncId} {func : Func} {N r sV t0 t1 t2 t3 t4 T ty : Nat} {i0 i1 : Nat} {fr : Int} {fs1 : List Fld} {c : Code}
    (hfn : (Tryd.prog).funcs[fn]? = some func)
    (hbody : func.body = some (.seq (.region r0 #[⟨some r, .assign (.const (.slice none i0 i1)), y0, q0, e0, none⟩] false) (.seq (.region r1 #[⟨some t0, .move (.tmp 0), y1, q1, e1, none⟩, ⟨some t1, .nilCheck (.tmp t0), y2, q2, e2, none⟩, ⟨some t2, .fieldAddr T (.tmp t1) 0, y3, q3, e3, none⟩, ⟨some t3, .load ty (.tmp t2), y4, q4, e4, none⟩, ⟨some sV, .assign (.tmp t3), y5, q5, e5, none⟩] false)
      (.seq (.region r2 #[⟨some t4, .move (.tmp sV), y6, q6, e6, none⟩] false) c))))
    (hres : func.results = #[.tmp r]) (hN : func.ntmps = N) (hF : (fieldB Tryd.prog T 0 0 1 && scalB Tryd.prog ty && decide (2 ≤ N) && decide ((0 :: 1 :: [r, t0, t1, t2, t3, t4, sV]).Nodup) && [r, t0, t1, t2, t3, t4, sV].all (fun t => decide (t < N))) = true)
    (h : ∀ (ver : Int) (s : S), ok ver → WrT ⟨N, t0, sV, 0, ver, false, false⟩ (sV + 1) t0 r c (PrS ⟨N, t0, sV, 0, ver, false, false⟩ 0 0 (verF fr :: fs1) s) (partEnc ⟨N, t0, sV, 0, ver, false, false⟩ (verF fr :: fs1) s)) :
    AppendsK fn ok (verF fr :: fs1) := by
  simp only [Bool.and_eq_true, decide_eq_true_eq, List.all_eq_true] at hF
  obtain ⟨⟨⟨⟨f1, f2⟩, f3⟩, hnd⟩, hlt⟩ := hF
  simp only [List.nodup_cons, List.mem_cons, List.not_mem_nil, or_false, not_or, List.nodup_nil, and_true, not_false_eq_true, forall_eq_or_imp, forall_eq] at hnd hlt
  intro s ver B w base v bs hver hs0 hat hB hbase hown hlim
  obtain ⟨d, cs, Tb, q1, hblk, q3, q4⟩ := hat.field (i := 0) (f := verF fr) rfl
  rw [hs0] at q1
  cases q1
  have hc0 : cs[0]? = some (.int .i16 ver) := by
    unfold verF RepF at q4
    change (cs.drop 0).take 1 = [.int .i16 ver] at q4
    cases cs with
    | nil => simp at q4
    | cons y ys => simp at q4; simp [q4]
  clear q3 q4
  refine zaA hfn hbody hres hN (by simpa using f3) ?_
  intro a hN hD ha
  have h0 : get a 0 = .pointer (some ⟨B, 0, none⟩) := ha 0 _ rfl
  have h1 : get a 1 = v := ha 1 _ rfl
  refine wp_seq_k fun K hK => ?_
  refine zag ?_
  refine zaB ?_
  refine zad (hK _ _ ?_)
  clear hK K
  refine wp_seq_k fun K hK => ?_
  refine zag ?_
  refine zaQ ?_
  simp only [zah, zaj, zae, zac, zak, ne_eq, zai, hN, hnd, hlt, not_false_eq_true, h0]
  refine wl_nilCheck (p := ⟨B, 0, none⟩) (by simp only [zah, zaj, zae, zac, zak, ne_eq, zai, hN, hnd, hlt, not_false_eq_true, h0]) ?_
  refine wl_fieldAddr (b := B) (o := 0) f1 (by simp only [zah, zaj, zae, zac, zak, ne_eq, zai, hN, hnd, hlt, not_false_eq_true, h0]) ?_
  refine zaE (b := B) (o := 0 + 0) f2 (by simp only [zah, zaj, zae, zac, zak, ne_eq, zai, hN, hnd, hlt, not_false_eq_true, h0]) hblk hc0 ?_
  refine zaB ?_
  simp only [zah, zaj, zae, zac, zak, ne_eq, zai, hN, hnd, hlt, not_false_eq_true, h0]
  refine zad (hK _ _ ?_)
  clear hK K
  refine wp_seq_k fun K hK => ?_
  refine zag ?_
  refine zaQ ?_
  simp only [zah, zaj, zae, zac, zak, ne_eq, zai, hN, hnd, hlt, not_false_eq_true, h0]
  refine zad (hK _ _ ?_)
  clear hK K
  have he : partEnc ⟨N, t0, sV, 0, ver, false, false⟩ (verF fr :: fs1) s = zaH false ver (verF fr :: fs1) s := partEnc_eq _ _ _
  rw [← he] at hlim ⊢
  refine h ver s hver _ w base v bs ⟨by simp only [zai, hN], by simp only [zab, hD], ?_, fun e => by cases e⟩ ?_ hown hbase ⟨B, 0, ?_, ?_, hB⟩ hlim
  · simp only [zah, zaj, zae, zac, zak, ne_eq, zai, hN, hnd, hlt, not_false_eq_true, h0]
  · simp only [zah, zaj, zae, zac, zak, ne_eq, zai, hN, hnd, hlt, not_false_eq_true, h1]
  · simp only [zah, zaj, zae, zac, zak, ne_eq, zai, hN, hnd, hlt, not_false_eq_true, h0]
  · exact hat
def NewV (fn : FuncId) (dc : List Value) : Prop := ∀ w : World, zaD Tryd.prog fn #[] w fun v w' => v = zaJ dc ∧ Chg (fun _ => False) w w'
theorem newval_of {fn fd : FuncId} {func : Func} {T n : Nat} {dc : List Value}
    (hfn : (Tryd.prog).funcs[fn]? = some func)
    (hbody : func.body = some (.seq (.region r0 #[⟨some 0, .alloc T, y0, q0, e0, none⟩] false) (.seq (.region r1 #[⟨some 1, .alloc T, y1, q1, e1, none⟩] false)
      (.seq (.region r2 #[⟨some 2, .call { callee := .value (.func fd), args := #[.tmp 1], argTypes := us }, y2, q2, e2, none⟩] false) (.seq (.region r3 #[⟨some 3, .load T (.tmp 1), y3, q3, e3, none⟩, ⟨none, .store T (.tmp 0) (.tmp 3), y4, q4, e4, none⟩] false) .ret)))))
    (hres : func.results = #[.cell 0 T]) (hNf : func.ntmps = 4) (hz : zeroB Tryd.prog T (zaJ (.int .i16 0 :: dc))) (hen : Enters Tryd.prog fd) (hdef : DefM fd dc)
    (hT : (aggB Tryd.prog T && sizeB Tryd.prog T n && decide ((Value.int .i16 0 :: dc).length = n) && (Value.int .i16 0 :: dc).all (·.oneCell')) = true) : NewV fn (.int .i16 0 :: dc) := by
  intro w
  simp only [Bool.and_eq_true, decide_eq_true_eq, List.all_eq_true] at hT
  obtain ⟨⟨⟨t1, t2⟩, t3⟩, t4⟩ := hT
  refine callsR_ofC hfn hbody hres t1 hNf (by simp) ?_
  intro a hN hD ha
  refine wp_seq_k fun K hK => ?_; refine zag ?_
  refine wl_allocA hz fun w1 hc1 hb1 hs1 => ?_
  refine zad ?_; refine hK _ _ ?_; clear hK K
  refine wp_seq_k fun K hK => ?_; refine zag ?_
  refine wl_allocA hz fun w2 hc2 hb2 hs2 => ?_
  refine zad ?_; refine hK _ _ ?_; clear hK K
  refine wp_seq_k fun K hK => ?_; refine zag ?_
  refine zaC hen (by simp only [List.map_toArray, List.map_cons, List.map_nil, evb, kb, hN, seval]; exact hdef w2 _ (.int .i16 0) T hb2) ?_
  rintro v w3 ⟨hb3, hc3⟩
  refine zad ?_; refine hK _ _ ?_; clear hK K
  refine wp_seq_k fun K hK => ?_; refine zag ?_
  refine zaV (b := w1.heap.size) (o := 0) (n := n) t1 t2 (by simp [evb, kb, hN, sdb]) hb3 (by omega) ?_
  have e5 : ((Value.int .i16 0 :: dc).drop 0).take n = .int .i16 0 :: dc := by rw [List.drop_zero, ← t3, List.take_length]
  rw [e5]
  have hb13 : Blk w3 w.heap.size (.int .i16 0 :: dc) T := (hb1.chg hc2 fun h => h).chg hc3 (by omega)
  refine zaU (b := w.heap.size) (n := n) (l' := .int .i16 0 :: dc) t2 (by simp [evb, kb, hN, sdb]) (by simp only [evb, kb, hN, seval]; rfl) hb13 t3 t4 t3 fun w4 hb4 hc4 => ?_
  refine zad ?_; refine hK _ _ ?_; clear hK K
  refine wp_ret ⟨by simp [zab, hD], w.heap.size, _, _, by simp only [evb, kb, hN, seval], hb4, by rw [t3]; exact t2, rfl, ?_⟩
  exact ((hc1.trans hc2 fun _ _ h => h).trans hc3 fun k hk h => by omega).trans hc4 fun k hk h => by omega
def AgK (fn : FuncId) (ok : Int → Prop) (fs : List Fld) : Prop := ∀ (ver : Int), ok ver → ∀ (w : World) (G : Nat → Prop) (oa : Option Addr) (bs : Bs) (cap : Nat), (∀ y, rS 2 bs = some y → y.1 = ver) → zau w G oa bs → bs.length ≤ RLIM → ErrW w →
  (∀ s r, zaF false ver fs bs = some (s, r) → (zaH false ver fs s).length ≤ LIM) → zaD Tryd.prog fn #[.slice oa bs.length cap] w (AgP false ver fs bs w)
theorem again_kept {ok : Int → Prop} {fn fp fr frr fa : FuncId} {func : Func} {T n : Nat} {f0 : Int} {fs1 : List Fld} {dc : List Value} (hokr : ∀ ver, ok ver → f0 ≤ ver)
    (hfn : (Tryd.prog).funcs[fn]? = some func)
    (hbody : func.body = some (.seq (.region r0 #[⟨some 2, .assign (.const (.slice none 0 0)), y0, q0, e0, none⟩, ⟨some 3, .assign (.const (.bool false)), y1, q1, e1, none⟩] false)
      (.seq (.region r1 #[⟨some 5, .call { callee := .value (.func fp), args := #[], argTypes := us }, y2, q2, e2, none⟩, ⟨some 4, .alloc T, y3, q3, e3, none⟩, ⟨none, .store T (.tmp 4) (.tmp 5), y4, q4, e4, none⟩] false)
      (.seq (.seq (.region r3 #[⟨some 6, .move (.tmp 0), y5, q5, e5, none⟩, ⟨some 7, .call { callee := .builtin .append, args := #[.const (.slice none 0 0), .tmp 6], argTypes := #[22, 22] }, y6, q6, e6, none⟩, ⟨some 8, .call { callee := .value (.func fr), args := #[.tmp 4, .tmp 7], argTypes := us3 }, y7, q7, e7, none⟩, ⟨some 9, .binOp .neq 51 (.tmp 8) (.const .nilIface) 51, y8, q8, e8, none⟩] false)
        (.cond (.tmp 9) (.seq (.region r4 #[⟨some 2, .assign (.const (.slice none 0 0)), y9, q9, e9, none⟩, ⟨some 3, .assign (.const (.bool false)), y10, q10, e10, none⟩] false) .ret) .skip))
      (.seq (.region r5 #[⟨some 10, .call { callee := .value (.func fa), args := #[.tmp 4, .const (.slice none 0 0)], argTypes := us4 }, y11, q11, e11, none⟩, ⟨some 2, .assign (.tmp 10), y12, q12, e12, none⟩, ⟨some 3, .assign (.const (.bool true)), y13, q13, e13, none⟩] false) .ret)))))
    (hres : func.results = #[.tmp 2, .tmp 3]) (hNf : func.ntmps = 11) (ep : Enters Tryd.prog fp) (er : Enters Tryd.prog fr) (ea : Enters Tryd.prog fa)
    (hz : zeroB Tryd.prog T (zaJ (.int .i16 0 :: dc))) (hT : (aggB Tryd.prog T && sizeB Tryd.prog T n && decide ((Value.int .i16 0 :: dc).length = n) && (Value.int .i16 0 :: dc).all (·.oneCell')) = true)
    (hp : NewV fp (.int .i16 0 :: dc)) (hf : ReadsFrom fr frr) (hr : ReadsK frr ok (verF f0 :: fs1) dc) (ha : AppendsK fa ok (verF f0 :: fs1)) : AgK fn ok (verF f0 :: fs1) := by
  intro ver hver w G oa bs cap hvr hsrc hlim herr hout
  simp only [Bool.and_eq_true, decide_eq_true_eq, List.all_eq_true] at hT
  obtain ⟨⟨⟨t1, t2⟩, t3⟩, t4⟩ := hT
  refine callsR_of2 hfn hbody hres hNf (by simp) ?_
  intro a hN hD hargs
  have g0 : get a 0 = .slice oa bs.length cap := hargs 0 _ rfl
  refine wp_seq_k fun K hK => ?_; refine zag ?_; (repeat ((with_reducible refine wl_p ?_ ?_ ?_); (· simp [evb, pvb, rnb, kb, hN, dyb, sdb] <;> omega); (· kernel_rfl); try simp only [evb, pvb, rnb, kb, hN, seval])); refine zad ?_; refine hK _ _ ?_; clear hK K
  refine wp_seq_k fun K hK => ?_; refine zag ?_
  refine zaC ep (by simp only [List.map_toArray, List.map_nil]; exact hp w) ?_
  rintro v w1 ⟨rfl, hc1⟩
  have hs01 := hc1.size
  refine wl_allocA hz fun w1' hc1' hb1' hs1' => ?_
  refine zaU (b := w1.heap.size) (n := n) (l' := .int .i16 0 :: dc) t2 (by simp [evb, kb, hN, sdb]) (by simp only [evb, kb, hN, seval]) hb1' t3 t4 t3 fun w2 hb2 hc2 => ?_
  refine zad ?_; refine hK _ _ ?_; clear hK K
  have hc12 : Chg (fun _ => False) w w2 := (hc1.trans hc1' fun _ _ h => h).trans hc2 fun n hn h => by omega
  have hE2 := herr.chg hc12 (fun h => h)
  have hgE := gE_lt herr
  have hs2 := hb2.lt
  refine wp_seq_k fun K hK => ?_; refine wp_seq_k fun K0 hK0 => ?_; refine zag ?_; (repeat ((with_reducible refine wl_p ?_ ?_ ?_); (· simp [evb, pvb, rnb, kb, hN, g0, dyb, sdb] <;> omega); (· kernel_rfl); try simp only [evb, pvb, rnb, kb, hN, seval, g0]))
  refine wl_append (t := 22) (e := 5) (base := w2.heap.size) (v := .slice none 0 0) (bs := []) (bs' := bs) (oa := oa) (c := cap) bT (by simp only [evb, kb, hN, seval]) (by simp only [evb, kb, hN, seval, g0]) (Own.nil _ _ _) (hsrc.chg hc12 fun _ _ _ h => h) (by unfold LIM; unfold RLIM at hlim; simp only [List.length_nil]; omega) (Nat.le_refl _) ?_
  intro v3 w3 happ
  have hc3 : Chg (fun _ => False) w2 w3 := happ.chg.mono fun n hn hk => by simp [Value.ownBlock] at hk
  obtain ⟨oa3, cap3, rfl, hcap3, hbs3⟩ := happ.own.bytes
  have hE3 := hE2.chg hc3 (fun h => h)
  have hb3 := hb2.chg hc3 (fun h => h)
  have hc13 : Chg (fun _ => False) w w3 := hc12.trans hc3 fun _ _ h => h
  have hs3 := hc3.size
  have hown := happ.own
  rw [List.nil_append] at hcap3 hbs3 hown ⊢
  have hne : ∀ g, Value.ownBlock (.slice oa3 bs.length cap3) = some g → g ≠ w1.heap.size := by
    intro g hg
    rcases hown.2 with ⟨h, _⟩ | ⟨g', c', cur, h, hbg, _⟩
    · rw [h] at hg; simp [Value.ownBlock] at hg
    · rw [h] at hg; simp [Value.ownBlock] at hg; omega
  refine zaC (R := ReadKP w3 ver (verF f0 :: fs1) w1.heap.size bs) er (by
    simp only [List.map_toArray, List.map_cons, List.map_nil, evb, kb, hN, seval]
    exact hf (hr ver w3 w1.heap.size T oa3 bs cap3 hver hvr hb3 (hbs3.mono fun g hg _ => hne g hg) hcap3 hlim (by omega) hE3)) ?_
  rintro v4 w4 ⟨hc4, hq⟩
  have hc14 : Chg (fun _ => False) w w4 := hc13.trans hc4 fun n hn h => by omega
  rcases hq with ⟨hd, t, x, rfl⟩ | ⟨s, r, hd, rfl, hat⟩
  · refine wl_neqNil1 (ti := t) (v := x) (by kernel_rfl) (by simp only [evb, kb, hN, seval]) ?_
    refine zad ?_
    refine hK0 _ _ ?_; try clear hK0 K0
    refine wp_cond_true (by simp [evb, kb, hN, sdb]) ?_
    refine wp_seq_k fun K hK => ?_; refine zag ?_; (repeat ((with_reducible refine wl_p ?_ ?_ ?_); (· simp [evb, pvb, rnb, kb, hN, dyb, sdb] <;> omega); (· kernel_rfl); try simp only [evb, pvb, rnb, kb, hN, seval])); refine zad ?_; refine hK _ _ ?_; clear hK K; refine wp_ret ⟨by simp [zab, hD], ?_⟩; simp only [evb, kb, hN, seval]
    exact ⟨hc14, .inl ⟨hd, by simp [evb, kb, hN, seval]⟩⟩
  · refine wl_neqNil0 (by kernel_rfl) (by simp only [evb, kb, hN, seval]) ?_
    refine zad ?_
    refine hK0 _ _ ?_; try clear hK0 K0
    refine wp_cond_false (by simp [evb, kb, hN, sdb]) ?_
    refine wp_skip ?_
    refine hK _ _ ?_
    clear hK K
    have hB4 : w1.heap.size < w4.heap.size := by have := hc4.size; omega
    refine wp_seq_k fun K hK => ?_; refine zag ?_
    refine zaC (R := App eB w4 w4.heap.size (.slice none 0 0) ([] ++ zaH false ver (verF f0 :: fs1) s)) ea (by
      simp only [List.map_toArray, List.map_cons, List.map_nil, evb, kb, hN, seval]
      exact ha s ver w1.heap.size w4 w4.heap.size (.slice none 0 0) [] hver (kp_ver (hokr ver hver) hd hvr) (hat.stay (Stay.sub fun k hk _ => hk) rfl) hB4 (Nat.le_refl _) (Own.nil _ _ _) (by have := hout s r hd; simpa using this)) ?_
    intro v5 w5 happ5
    (repeat ((with_reducible refine wl_p ?_ ?_ ?_); (· simp [evb, pvb, rnb, kb, hN, dyb, sdb] <;> omega); (· kernel_rfl); try simp only [evb, pvb, rnb, kb, hN, seval])); refine zad ?_; refine hK _ _ ?_; clear hK K; refine wp_ret ⟨by simp [zab, hD], ?_⟩; simp only [evb, kb, hN, seval]
    have hc5 : Chg (fun _ => False) w4 w5 := happ5.chg.mono fun n hn hk => by simp [Value.ownBlock] at hk
    refine ⟨hc14.trans hc5 fun _ _ h => h, .inr ⟨s, r, v5, hd, by simp [evb, kb, hN, seval], ?_⟩⟩
    have := happ5.own
    rw [List.nil_append] at this
    exact this.mono hc14.size
end
end Go.Proofs.YtgjnllebnkjofaaDoor
namespace Go.Proofs.YtgjnllebnkjofaaDoor
set_option linter.all false
open Go.RowKit
set_option maxRecDepth 10000
set_option maxHeartbeats 2000000
theorem ws_conv {P : Program} {ops : Array Oper} {S : World → Prop} {Q : Act → World → Prop} {r : List (Bool × Nat)} {a : Act} {w : World} {d : Option Nat} {i : Nat} {ty : TypeId} {pos : String} {af : Array Edge} {s t : TypeId} {x : Operand} {j : IntKind} {n : Int} (hi : ops[i]? = some ⟨d, .convert s t x, ty, pos, af, none⟩) (hc : (someB P s && isIntT P t) = true) (hx : a.eval x = .int j n)
    (h : zax P ops S Q r (a.put d (cvt (kindOf P t) (.int j n))) w) : zax P ops S Q ((true, i) :: r) a w :=
  ws_float _ hi (fun w' _ => by
    have := run_pure (P := P) (w := w') (ρ := a.eval) (d := d) (o := .convert s t x) (ty := ty) (pos := pos) (af := af) (fun _ => rfl) (by simp [dyn, hx, isI]) hc
    simpa [pv, hx] using this) h
theorem ws_rem {P : Program} {ops : Array Oper} {S : World → Prop} {Q : Act → World → Prop} {r : List (Bool × Nat)} {a : Act} {w : World} {d : Option Nat} {i : Nat} {ty : TypeId} {pos : String} {af : Array Edge} {t u : TypeId} {x y : Operand} {j : IntKind} {m n : Int} (hi : ops[i]? = some ⟨d, .binOp .rem t x y u, ty, pos, af, none⟩) (hx : a.eval x = .int j m) (hy : a.eval y = .int j n) (hn : n ≠ 0)
    (h : zax P ops S Q r (a.put d (.int j (m.tmod n))) w) : zax P ops S Q ((true, i) :: r) a w :=
  ws_float _ hi (fun w' _ => by simp [execOp, eqGuard, binOp, hx, hy, Op.intDiv, hn]) h
def kB (ver : Int) (fs : List Fld) (v : Tr) : Bs := be 2 ver ++ sPart false ver fs v
theorem Kept_c (fs : List Fld) (ver : Int) (v : Tr) (hok : okL fs = true) (hlen : fs.length ≤ 1073741824) (hvo : TROK v) (hlim : (sPart false ver fs v).length ≤ SLIM)
    {w : World} {G G' : Nat → Prop} {sv : Value} {ts : List Value} (hfs : SchS w G fs sv) (hv : TrC w G' v ts) :
    zaD Tryd.prog 7 #[zaJ [sv, .int .i64 (-1)], .int .i64 ver, zaJ ts] w fun r w' => Octs w r (kB ver fs v) w' := by
  refine zaA Tryd.func7 rfl rfl Tryd.ntmps7 (by simp) ?_
  intro a hN hD ha
  have h0 : get a 0 = zaJ [sv, .int .i64 (-1)] := ha 0 _ rfl
  have h1 : get a 1 = .int .i64 ver := ha 1 _ rfl
  have h2 : get a 2 = zaJ ts := ha 2 _ rfl
  have hl5 := hv.len
  refine wp_seq_k fun K hK => ?_; refine zag ?_
  refine wl_boxA (l := [sv, .int .i64 (-1)]) (by simp [evb, kb, hN, h0, sdb]) fun w1 hc hb hs => ?_
  refine wl_boxA (l := ts) (by simp [evb, kb, hN, h2, sdb]) fun w2 hc2 hb2 hs2 => ?_
  replace hb := hb.chg hc2 (fun h => h)
  replace hc := hc.trans hc2 (fun _ _ h => h)
  rw [hs] at hb2 ⊢
  (repeat ((with_reducible refine wl_p ?_ ?_ ?_); (· simp [evb, pvb, rnb, kb, hN, dyb, sdb] <;> omega); (· kernel_rfl); try simp only [evb, pvb, rnb, kb, hN, seval]))
  refine zad ?_; refine hK _ _ ?_; clear hK K
  have e5 : (ts.drop 0).take 5 = ts := by rw [List.drop_zero, List.take_of_length_le (by omega)]
  have e2 : (([sv, .int .i64 (-1)] : List Value).drop 0).take 2 = [sv, .int .i64 (-1)] := rfl
  refine wp_seq_k fun K hK => ?_
  refine wp_sched (fun w' => Chg (fun _ => False) w2 w') [(true, 0), (true, 2), (true, 3), (true, 4), (false, 1), (false, 5), (false, 6), (true, 7)] zaO (by kernel_rfl) (by kernel_rfl) (Chg.drew _ _) ?_
  refine za0 rfl ?_
  simp only [evb, kb, hN, seval, h1]
  refine ws_loadAgg (b := w.heap.size) (o := 0) (n := 2) (by kernel_rfl) (by kernel_rfl) rfl (by simp [evb, kb, hN, sdb]) (fun w' c => hb.chg c (fun h => h)) (by simp) ?_
  rw [e2]
  refine za0 rfl ?_
  simp only [evb, kb, hN, seval, h1]
  refine ws_loadAgg (b := w.heap.size + 1) (o := 0) (n := 5) (by kernel_rfl) (by kernel_rfl) rfl (by simp [evb, kb, hN, sdb]) (fun w' c => hb2.chg c (fun h => h)) (by omega) ?_
  rw [e5]
  refine ws_call (fun args w => Tryd.call19 args w) rfl (by simp only [List.map_toArray, List.map_cons, List.map_nil, evb, kb, hN, seval, h1]; exact Fixed_c ver 2 (by omega)) ?_
  rintro v3 w3 ⟨ho3, hc3⟩
  have hk3 : Chg (fun _ => False) w2 w3 := (Chg.drew _ _).trans hc3 fun _ _ h => h
  refine ⟨hk3, ?_⟩
  have hcw3 : Chg (fun _ => False) w w3 := hc.trans hk3 fun _ _ h => h
  refine ws_call (fun args w => Tryd.call14 args w) rfl (by simp only [List.map_toArray, List.map_cons, List.map_nil, evb, kb, hN, seval, h1]; exact Write_c fs (-1) ver v hok hlen hvo (by simpa using hlim) (hfs.stay (Stay.none hcw3)) (hv.stay (Stay.none hcw3))) ?_
  rintro v4 w4 ⟨ho4, hc4⟩
  have hk4 : Chg (fun _ => False) w2 w4 := hk3.trans hc4 fun _ _ h => h
  refine ⟨hk4, ?_⟩
  have e6 : (decide (0 ≤ (-1 : Int)) && decide ((-1 : Int) ≤ ver)) = false := by simp
  rw [e6] at ho4
  obtain ⟨oa4, cap4, rfl, _, hb4⟩ := ho4.bytes
  have hb43 : w.heap.size ≤ w2.drew.heap.size := hc.size
  have ho3' : Own eB w4 w.heap.size v3 (be 2 ver) := (ho3.chg hc4 fun _ _ h => h).mono hb43
  refine ws_step rfl fun K2 hK2 => ?_
  refine wl_append (t := 22) (e := 5) (base := w.heap.size) (v := v3) (bs := be 2 ver) (bs' := sPart false ver fs v) (oa := oa4) (c := cap4) bT (by simp only [evb, kb, hN, seval]) (by simp only [evb, kb, hN, seval]) ho3' hb4 (by rw [be_length]; unfold LIM; unfold SLIM at hlim; omega) (by have := hc.size; have := hk4.size; omega) ?_
  intro v5 w5 happ
  have hk5 : Chg (fun _ => False) w w5 := (hc.trans hk4 fun _ _ h => h).trans happ.chg fun k hk e => by have := (ho3'.lt k e).1; omega
  have hk25 : Chg (fun _ => False) w2 w5 := hk4.trans happ.chg fun k hk e => by
    have h3 := (ho3.chg hc4 fun _ _ h => h).lt k e
    have : w2.drew.heap.size = w2.heap.size := rfl
    omega
  refine zad (hK2 _ _ hk25 ?_)
  refine ws_assign rfl ?_
  simp only [evb, kb, hN, seval]
  refine ws_nil ?_
  refine hK _ _ ?_
  refine wp_ret ⟨by simp [zab, hD], ?_⟩; simp only [evb, kb, hN, seval]
  exact ⟨happ.own, hk5⟩
section
variable {y0 y1 y2 y3 y4 y5 y6 y7 y8 y9 y10 y11 y12 y13 y14 y15 y16 y17 y18 y19 y20 y21 y22 y23 y24 y25 y26 y27 y28 y29 y30 y31 y32 y33 y34 y35 y36 y37 y38 y39 : TypeId} {q0 q1 q2 q3 q4 q5 q6 q7 q8 q9 q10 q11 q12 q13 q14 q15 q16 q17 q18 q19 q20 q21 q22 q23 q24 q25 q26 q27 q28 q29 q30 q31 q32 q33 q34 q35 q36 q37 q38 q39 : String} {e0 e1 e2 e3 e4 e5 e6 e7 e8 e9 e10 e11 e12 e13 e14 e15 e16 e17 e18 e19 e20 e21 e22 e23 e24 e25 e26 e27 e28 e29 e30 e31 e32 e33 e34 e35 e36 e37 e38 e39 : Array Edge} {r0 r1 r2 r3 r4 r5 : Nat}
variable {y40 y41 y42 y43 y44 y45 y46 y47 y48 y49 y50 y51 y52 y53 y54 y55 y56 y57 y58 y59 : TypeId} {q40 q41 q42 q43 q44 q45 q46 q47 q48 q49 q50 q51 q52 q53 q54 q55 q56 q57 q58 q59 : String} {e40 e41 e42 e43 e44 e45 e46 e47 e48 e49 e50 e51 e52 e53 e54 e55 e56 e57 e58 e59 : Array Edge}
variable {us us1 us2 us3 us4 us5 us6 us7 us8 : Array TypeId} {r6 r7 r8 r9 r10 r11 r12 : Nat} {z1 z2 z3 z4 z5 : TypeId} {p1 p2 p3 p4 p5 : String} {j1 j2 j3 j4 j5 : Array Edge}
theorem kp_tree {k : Nat} {fs : List Fld} {v : Tr} {ver : Int} (hsch : SchOK (fun _ => false) k fs) (hv0 : 0 ≤ ver) (hv1 : ver ≤ k) (hk : k < 256) (hr0 : kL fs + 6 ≤ 1000) (hkv : keyV v) (hb : zaN v ≤ 1048576) :
    (kB ver fs v).length ≤ RLIM ∧ (∀ x, rS 2 (kB ver fs v ++ x) = some (ver, sPart false ver fs v ++ x)) ∧ ∃ s, zaF false ver (verF 0 :: fs) (kB ver fs v) = some (s, []) ∧ zaH false ver (verF 0 :: fs) s = kB ver fs v := by
  have hbound : (sPart false ver fs v).length ≤ 1048576000 := by
    have h1 := sPart_le (flex := false) (ver := ver) (v := v) hsch.plain
    have h2 : (kL fs + 6) * zaN v ≤ 1000 * 1048576 := Nat.mul_le_mul hr0 hb
    omega
  obtain ⟨s, hdec, henc⟩ := tree_law (hsch.good ver hv0 hv1) hsch.plain hkv (by omega : (sPart false ver fs v).length ≤ 2147483648)
  have hr : ∀ x, rS 2 (kB ver fs v ++ x) = some (ver, sPart false ver fs v ++ x) := fun x => by
    unfold kB
    rw [List.append_assoc]
    exact rS_be 2 ver _ (by omega) (by omega)
  refine ⟨by unfold kB RLIM; rw [List.length_append, be_length]; omega, hr, ⟨.int ver :: s.ds, []⟩, ?_, ?_⟩
  · have h0 := hr []
    rw [List.append_nil, List.append_nil] at h0
    rw [kp_dec hv0, h0, Option.bind_some, hdec]
    rfl
  · rw [kp_enc hv0]
    unfold kB
    rw [← henc]
    rfl
theorem lawAgainK_of {fn fL fA : FuncId} {func : Func} {k : Nat} {K1 : Int} {fs : List Fld} {L6 : List Oper}
    (hfn : (Tryd.prog).funcs[fn]? = some func)
    (hbody : func.body = some (.seq (.region r0 #[⟨some 3, .box 26 (.tmp 1), y0, q0, e0, none⟩, ⟨some 4, .assign (.const (.bool false)), y1, q1, e1, none⟩] false)
     (.seq (.seq (.region r1 #[⟨some 8, .load 26 (.tmp 3), y2, q2, e2, none⟩, ⟨some 9, .call { callee := .value (.func 6), args := #[.tmp 8], argTypes := us }, y3, q3, e3, none⟩, ⟨some 10, .unOp .not 4 (.tmp 9), y4, q4, e4, none⟩] false)
        (.cond (.tmp 10) (.seq (.region r2 #[⟨some 4, .assign (.const (.bool true)), y5, q5, e5, none⟩] false) .ret) .skip))
      (.seq (.region r6 L6.toArray true)
      (.seq (.region r7 #[⟨some 18, .move (.tmp 5), y6, q6, e6, none⟩, ⟨some 19, .call { callee := .value (.func fA), args := #[.tmp 18], argTypes := us6 }, y7, q7, e7, none⟩,
          ⟨some 17, .move (.tmp 19), y8, q8, e8, none⟩, ⟨some 20, .extract (.tmp 17) 0, y9, q9, e9, none⟩, ⟨some 21, .extract (.tmp 17) 1, y10, q10, e10, none⟩, ⟨some 6, .assign (.tmp 20), y11, q11, e11, none⟩, ⟨some 7, .assign (.tmp 21), y12, q12, e12, none⟩] false)
      (.seq (.region r8 #[⟨some 22, .move (.tmp 7), y13, q13, e13, none⟩, ⟨some 23, .move (.tmp 22), y14, q14, e14, none⟩, ⟨some 24, .move (.tmp 6), z1, p1, j1, some (1, true)⟩, ⟨some 25, .move (.tmp 5), z2, p2, j2, some (1, true)⟩,
          ⟨some 26, .call { callee := .value (.func 10), args := #[.tmp 24, .tmp 25], argTypes := us7 }, z3, p3, j3, some (1, true)⟩, ⟨some 27, .pick (.tmp 23) (.tmp 26) (.const (.bool false)), y15, q15, e15, none⟩, ⟨some 4, .assign (.tmp 27), y16, q16, e16, none⟩] false) .ret))))))
    (hL6 : L6 = [⟨some 11, .call { callee := .value (.func fL), args := #[], argTypes := us2 }, y17, q17, e17, none⟩, ⟨some 12, .move (.tmp 0), y18, q18, e18, none⟩, ⟨some 13, .convert 5 3 (.tmp 12), y19, q19, e19, none⟩, ⟨some 14, .binOp .rem 3 (.tmp 13) (.const (.int .i64 K1)) 3, y20, q20, e20, none⟩, ⟨some 15, .load 26 (.tmp 3), y21, q21, e21, none⟩,
          ⟨some 16, .call { callee := .value (.func 7), args := #[.tmp 11, .tmp 14, .tmp 15], argTypes := us4 }, y22, q22, e22, none⟩, ⟨some 5, .assign (.tmp 16), y23, q23, e23, none⟩])
    (hS6 : (decide (7 ≤ L6.length) && schedB .any L6.toArray [(true, 1), (true, 2), (true, 3), (true, 4), (false, 0), (false, 5), (true, 6)] (Array.replicate L6.length false)) = true)
    (hres : func.results = #[.tmp 4]) (hNf : func.ntmps = 28) (eL : Enters Tryd.prog fL) (eA : Enters Tryd.prog fA)
    (hL : LaysM fL fs (-1)) (hA : AgK fA (fun ver => 0 ≤ ver) (verF 0 :: fs)) (hk : k < 256) (hK1 : K1 = (k : Int) + 1) (hsch : SchOK (fun _ => false) k fs) (hr0 : kL fs + 6 ≤ 1000)
    {n : Int} (hn : 0 ≤ n) (hn2 : n < 256) {w : World} {G : Nat → Prop} {v : Tr} {ts : List Value} (hv : TrC w G v ts) (hkv : keyV v) (hb : zaN v ≤ 1048576) (herr : ErrW w) :
    zaD Tryd.prog fn #[.int .u8 n, zaJ ts] w fun v w' => v = .bool true ∧ Chg (fun _ => False) w w' := by
  subst hL6 hK1
  refine zaA hfn hbody hres hNf (by simp) ?_
  intro a hN hD ha
  have g0 : get a 0 = .int .u8 n := ha 0 _ rfl
  have g1 : get a 1 = zaJ ts := ha 1 _ rfl
  obtain ⟨ver, hver⟩ : ∃ ver, ver = n % ((k : Int) + 1) := ⟨_, rfl⟩
  have hv0 : 0 ≤ ver := by rw [hver]; exact Int.emod_nonneg _ (by omega)
  have hv1 : ver ≤ k := by have := Int.emod_lt_of_pos n (show (0 : Int) < (k : Int) + 1 by omega); omega
  have hlen5 := hv.len
  have hone := hv.one
  have hlv := trLen_bulk v
  obtain ⟨hkl, hkr, s, hdec, henc⟩ := kp_tree hsch hv0 hv1 hk hr0 hkv hb
  have hsl : (sPart false ver fs v).length ≤ SLIM := by
    have : (kB ver fs v).length = 2 + (sPart false ver fs v).length := by unfold kB; rw [List.length_append, be_length]
    unfold RLIM at hkl; unfold SLIM; omega
  refine wp_seq_k fun K hK => ?_; refine zag ?_
  refine wl_boxA (l := ts) (by simp [evb, kb, hN, g1, sdb]) fun w1 hc1 hb1 hs1 => ?_
  (repeat ((with_reducible refine wl_p ?_ ?_ ?_); (· simp [evb, pvb, rnb, kb, hN, dyb, sdb] <;> omega); (· kernel_rfl); try simp only [evb, pvb, rnb, kb, hN, seval])); refine zad ?_; refine hK _ _ ?_; clear hK K
  refine wp_seq_k fun K hK => ?_; refine wp_seq_k fun K0 hK0 => ?_; refine zag ?_
  refine zaV (b := w.heap.size) (o := 0) (n := 5) (by kernel_rfl) (by kernel_rfl) (by simp [evb, kb, hN, sdb]) hb1 (by omega) ?_
  have e5 : (ts.drop 0).take 5 = ts := by rw [List.drop_zero, ← hlen5, List.take_length]
  rw [e5]
  refine zaC (fun args w => Tryd.call6 args w) (by simp only [List.map_toArray, List.map_cons, List.map_nil, evb, kb, hN, seval]; exact fits2_c v (by omega) (hv.stay (Stay.none hc1))) ?_
  rintro _ w2 ⟨⟨bb, rfl⟩, hc2⟩
  have hcw2 : Chg (fun _ => False) w w2 := hc1.trans hc2 fun _ _ h => h
  (repeat ((with_reducible refine wl_p ?_ ?_ ?_); (· simp [evb, pvb, rnb, kb, hN, dyb, sdb] <;> omega); (· kernel_rfl); try simp only [evb, pvb, rnb, kb, hN, seval]))
  refine zad ?_
  refine hK0 _ _ ?_; try clear hK0 K0
  cases bb
  · refine wp_cond_true (by simp [evb, kb, hN, sdb]) ?_
    refine wp_seq_k fun K hK => ?_; refine zag ?_; (repeat ((with_reducible refine wl_p ?_ ?_ ?_); (· simp [evb, pvb, rnb, kb, hN, dyb, sdb] <;> omega); (· kernel_rfl); try simp only [evb, pvb, rnb, kb, hN, seval])); refine zad ?_; refine hK _ _ ?_; clear hK K; refine wp_ret ⟨by simp [zab, hD], ?_⟩; simp only [evb, kb, hN, seval]
    exact ⟨by simp [evb, kb, hN, seval], hcw2⟩
  refine wp_cond_false (by simp [evb, kb, hN, sdb]) ?_
  refine wp_skip ?_
  refine hK _ _ ?_
  clear hK K
  have hb2 := hb1.chg hc2 (fun h => h)
  refine wp_seq_k fun K hK => ?_
  refine wp_sched (fun w' => Chg (fun _ => False) w2 w') [(true, 1), (true, 2), (true, 3), (true, 4), (false, 0), (false, 5), (true, 6)] zaO (by kernel_rfl) hS6 (Chg.drew _ _) ?_
  refine za0 rfl ?_
  simp only [evb, kb, hN, seval, g0]
  refine ws_conv (j := .u8) (n := n) rfl (by kernel_rfl) (by simp only [evb, kb, hN, seval]) ?_
  have e3 : cvt (kindOf Tryd.prog 3) (.int .u8 n) = .int .i64 n := by
    have : kindOf Tryd.prog 3 = .i64 := by kernel_rfl
    rw [this]
    show Value.int .i64 (IntKind.i64.wrap n) = _
    rw [i64_id n (by omega)]
  rw [e3]
  refine ws_rem (j := .i64) (m := n) (n := (k : Int) + 1) rfl (by simp only [evb, kb, hN, seval]) (by simp only [evb, kb, hN, seval]) (by omega) ?_
  rw [Int.tmod_eq_emod_of_nonneg hn, ← hver]
  refine ws_loadAgg (b := w.heap.size) (o := 0) (n := 5) (by kernel_rfl) (by kernel_rfl) rfl (by simp [evb, kb, hN, sdb]) (fun w' c => hb2.chg c (fun h => h)) (by omega) ?_
  rw [e5]
  refine ws_call eL rfl (by simp only [List.map_toArray, List.map_cons, List.map_nil, evb, kb, hN, seval]; exact hL _) ?_
  rintro _ w4 ⟨sv, rfl, hsv, hc4⟩
  have hk4 : Chg (fun _ => False) w2 w4 := (Chg.drew _ _).trans hc4 fun _ _ h => h
  refine ⟨hk4, ?_⟩
  have hcw4 : Chg (fun _ => False) w w4 := hcw2.trans hk4 fun _ _ h => h
  refine ws_call (fun args w => Tryd.call7 args w) rfl (by simp only [List.map_toArray, List.map_cons, List.map_nil, evb, kb, hN, seval]; exact Kept_c fs ver v hsch.ok hsch.len (trok_bulk (by unfold LIM; omega)) hsl hsv (hv.stay (Stay.none hcw4))) ?_
  rintro v5 w5 ho5
  have hk5 := hk4.trans ho5.2 fun _ _ h => h
  refine ⟨hk5, ?_⟩
  refine ws_assign rfl ?_
  simp only [evb, kb, hN, seval]
  refine ws_nil ?_
  refine hK _ _ ?_
  clear hK K
  have hcw5 : Chg (fun _ => False) w w5 := hcw2.trans hk5 fun _ _ h => h
  have hE5 := herr.chg hcw5 (fun h => h)
  obtain ⟨oa5, cap5, rfl, _, hb5⟩ := ho5.1.bytes
  have hyv : ∀ y, rS 2 (kB ver fs v) = some y → y.1 = ver := fun y hy => by
    have := hkr []
    rw [List.append_nil] at this
    rw [this] at hy
    cases hy; rfl
  have hout : ∀ s' r', zaF false ver (verF 0 :: fs) (kB ver fs v) = some (s', r') → (zaH false ver (verF 0 :: fs) s').length ≤ LIM := fun s' r' h => by
    rw [hdec] at h
    simp only [Option.some.injEq, Prod.mk.injEq] at h
    obtain ⟨rfl, _⟩ := h
    rw [henc]; unfold RLIM at hkl; unfold LIM; omega
  refine wp_seq_k fun K hK => ?_; refine zag ?_; (repeat ((with_reducible refine wl_p ?_ ?_ ?_); (· simp [evb, pvb, rnb, kb, hN, dyb, sdb] <;> omega); (· kernel_rfl); try simp only [evb, pvb, rnb, kb, hN, seval]))
  refine zaC eA (by simp only [List.map_toArray, List.map_cons, List.map_nil, evb, kb, hN, seval]; exact hA ver hv0 _ _ oa5 _ cap5 hyv hb5 hkl hE5 hout) ?_
  rintro v6 w6 ⟨hc6, hq⟩
  rcases hq with ⟨h, _⟩ | ⟨s', r', out, h, rfl, hown⟩
  · rw [hdec] at h; cases h
  rw [hdec] at h
  simp only [Option.some.injEq, Prod.mk.injEq] at h
  obtain ⟨rfl, rfl⟩ := h
  rw [henc] at hown
  obtain ⟨oa6, cap6, rfl, _, hb6⟩ := hown.bytes
  (repeat ((with_reducible refine wl_p ?_ ?_ ?_); (· simp [evb, pvb, rnb, kb, hN, exV, exOK, dyb, sdb] <;> omega); (· kernel_rfl); try simp only [evb, pvb, rnb, kb, hN, seval, exV, exOK])); refine zad ?_; refine hK _ _ ?_; clear hK K
  refine wp_seq_k fun K hK => ?_; refine zag ?_; (repeat (first | ((with_reducible refine wl_p ?_ ?_ ?_); (· simp [evb, pvb, rnb, kb, hN, seval, dyb, sdb] <;> omega); (· kernel_rfl); try simp only [evb, pvb, rnb, kb, hN, seval]) | ((with_reducible apply zal); (· exact rfl); (· exact rfl); (· simp [evb, pvb, rnb, kb, hN, seval]; done); try simp only [evb, pvb, rnb, kb, hN, seval]) | ((with_reducible apply zao); (· exact rfl); (· exact rfl); (· simp [evb, pvb, rnb, kb, hN, seval]; done); try simp only [evb, pvb, rnb, kb, hN, seval]) | ((with_reducible apply zap); (· exact rfl); (· exact rfl); (· simp [evb, pvb, rnb, kb, hN, seval]; done); try simp only [evb, pvb, rnb, kb, hN, seval])))
  refine zaC (fun args w => Tryd.call10 args w) (by simp only [List.map_toArray, List.map_cons, List.map_nil, evb, kb, hN, seval]; exact Same_c _ _ hb6 (hb5.chg hc6 fun _ _ _ h => h) (by unfold RLIM at hkl; unfold LIM; omega)) ?_
  rintro _ w7 ⟨rfl, hc7⟩
  (repeat ((with_reducible refine wl_p ?_ ?_ ?_); (· simp [evb, pvb, rnb, kb, hN, pickV, dyb, sdb] <;> omega); (· kernel_rfl); try simp only [evb, pvb, rnb, kb, hN, seval, pickV])); refine zad ?_; refine hK _ _ ?_; clear hK K; refine wp_ret ⟨by simp [zab, hD], ?_⟩; simp only [evb, kb, hN, seval]
  exact ⟨by simp, (hcw5.trans hc6 fun _ _ h => h).trans hc7 fun _ _ h => h⟩
def AgK0 (fn : FuncId) (fs : List Fld) : Prop := ∀ (w : World) (G : Nat → Prop) (oa : Option Addr) (bs : Bs) (cap : Nat), zau w G oa bs → bs.length ≤ RLIM → ErrW w →
  (∀ s r, zaF false 0 (verF 0 :: fs) bs = some (s, r) → (zaH false 0 (verF 0 :: fs) s).length ≤ LIM) → zaD Tryd.prog fn #[.slice oa bs.length cap] w (AgP false 0 (verF 0 :: fs) bs w)
theorem agk0_of {fn : FuncId} {fs fs' : List Fld} (h : AgK fn (fun ver => -32768 ≤ ver) (verF (-32768) :: fs')) (hdec : ∀ ver bs, -32768 ≤ ver → zaF false ver fs' bs = zaF false 0 fs bs) (henc : ∀ ver s, -32768 ≤ ver → zaH false ver fs' s = zaH false 0 fs s) : AgK0 fn fs := by
  intro w G oa bs cap hb hl hE hout
  obtain ⟨ver, hok, hyv⟩ : ∃ ver : Int, -32768 ≤ ver ∧ ∀ y, rS 2 bs = some y → y.1 = ver := by
    cases hr : rS 2 bs with
    | none => exact ⟨0, by omega, fun y hy => by cases hy⟩
    | some y =>
      have := rS_range hr
      exact ⟨y.1, by omega, fun z hz => by cases hz; rfl⟩
  have e1 : zaF false ver (verF (-32768) :: fs') bs = zaF false 0 (verF 0 :: fs) bs := by
    rw [kp_dec hok, kp_dec (Int.le_refl _)]
    simp only [hdec ver _ hok]
  have e2 : ∀ s r, zaF false ver (verF (-32768) :: fs') bs = some (s, r) → zaH false ver (verF (-32768) :: fs') s = zaH false 0 (verF 0 :: fs) s := by
    intro s r hs
    rw [kp_dec hok] at hs
    cases hr : rS 2 bs with
    | none => rw [hr] at hs; cases hs
    | some y =>
      rw [hr, Option.bind_some] at hs
      cases h2 : zaF false ver fs' y.2 with
      | none => rw [h2] at hs; cases hs
      | some z =>
        rw [h2] at hs
        simp only [Option.map_some, Option.some.injEq, Prod.mk.injEq] at hs
        rw [← hs.1, kp_enc hok, kp_enc (Int.le_refl _), henc ver _ hok]
  refine (h ver hok w G oa bs cap hyv hb hl hE fun s r hs => ?_).mono ?_
  · rw [e2 s r hs]; exact hout s r (by rw [← e1]; exact hs)
  · rintro v w' ⟨hc, hq⟩
    refine ⟨hc, ?_⟩
    rcases hq with ⟨q1, q2⟩ | ⟨s, r, out, q1, q2, q3⟩
    · exact .inl ⟨by rw [← e1]; exact q1, q2⟩
    · exact .inr ⟨s, r, out, by rw [← e1]; exact q1, q2, by rw [← e2 s r q1]; exact q3⟩
theorem lawAnyK_of {fn fL fA : FuncId} {func : Func} {fs : List Fld}
    (hfn : (Tryd.prog).funcs[fn]? = some func)
    (hbody : func.body = some (.seq (.region r0 #[⟨some 2, .assign (.const (.bool false)), y0, q0, e0, none⟩] false)
     (.seq (.seq (.region r1 #[⟨some 9, .move (.tmp 0), y1, q1, e1, none⟩, ⟨some 10, .call { callee := .builtin .len, args := #[.tmp 9], argTypes := #[22] }, y2, q2, e2, none⟩, ⟨some 11, .binOp .gtr 3 (.tmp 10) (.const (.int .i64 2147483647)) 3, y3, q3, e3, none⟩] false)
        (.cond (.tmp 11) (.seq (.region r2 #[⟨some 2, .assign (.const (.bool true)), y4, q4, e4, none⟩] false) .ret) .skip))
      (.seq (.seq (.region r6 #[⟨some 12, .move (.tmp 0), y5, q5, e5, none⟩, ⟨some 13, .call { callee := .builtin .len, args := #[.tmp 12], argTypes := #[22] }, y6, q6, e6, none⟩, ⟨some 14, .binOp .gtr 3 (.tmp 13) (.const (.int .i64 1000)) 3, y7, q7, e7, none⟩] false)
        (.cond (.tmp 14) (.seq (.region r7 #[⟨some 2, .assign (.const (.bool true)), y8, q8, e8, none⟩] false) .ret) .skip))
      (.seq (.region r3 #[⟨some 16, .call { callee := .value (.func fL), args := #[], argTypes := us1 }, y9, q9, e9, none⟩, ⟨some 17, .build 26 #[], y10, q10, e10, none⟩, ⟨some 18, .call { callee := .value (.func 7), args := #[.tmp 16, .const (.int .i64 0), .tmp 17], argTypes := us2 }, y11, q11, e11, none⟩, ⟨some 19, .call { callee := .value (.func fA), args := #[.tmp 18], argTypes := us3 }, y12, q12, e12, none⟩,
          ⟨some 15, .move (.tmp 19), y13, q13, e13, none⟩, ⟨some 20, .extract (.tmp 15) 0, y14, q14, e14, none⟩, ⟨some 21, .extract (.tmp 15) 1, y15, q15, e15, none⟩, ⟨some 3, .assign (.tmp 20), y16, q16, e16, none⟩, ⟨some 4, .assign (.tmp 21), y17, q17, e17, none⟩] false)
      (.seq (.region r8 #[⟨some 23, .move (.tmp 0), y18, q18, e18, none⟩, ⟨some 24, .call { callee := .value (.func fA), args := #[.tmp 23], argTypes := us4 }, y19, q19, e19, none⟩,
          ⟨some 22, .move (.tmp 24), y20, q20, e20, none⟩, ⟨some 25, .extract (.tmp 22) 0, y21, q21, e21, none⟩, ⟨some 26, .extract (.tmp 22) 1, y22, q22, e22, none⟩, ⟨some 5, .assign (.tmp 25), y23, q23, e23, none⟩, ⟨some 6, .assign (.tmp 26), y24, q24, e24, none⟩] false)
      (.seq (.seq (.region r9 #[⟨some 27, .move (.tmp 4), y25, q25, e25, none⟩, ⟨some 28, .unOp .not 4 (.tmp 27), y26, q26, e26, none⟩, ⟨some 29, .move (.tmp 28), y27, q27, e27, none⟩, ⟨some 30, .move (.tmp 6), z1, p1, j1, some (2, false)⟩, ⟨some 31, .unOp .not 4 (.tmp 30), z2, p2, j2, some (2, false)⟩, ⟨some 32, .pick (.tmp 29) (.const (.bool true)) (.tmp 31), y28, q28, e28, none⟩] false)
        (.cond (.tmp 32) (.seq (.region r10 #[⟨some 33, .move (.tmp 4), y29, q29, e29, none⟩, ⟨some 2, .assign (.tmp 33), y30, q30, e30, none⟩] false) .ret) .skip))
      (.seq (.region r11 #[⟨some 35, .move (.tmp 5), y31, q31, e31, none⟩, ⟨some 36, .call { callee := .value (.func fA), args := #[.tmp 35], argTypes := us6 }, y32, q32, e32, none⟩,
          ⟨some 34, .move (.tmp 36), y33, q33, e33, none⟩, ⟨some 37, .extract (.tmp 34) 0, y34, q34, e34, none⟩, ⟨some 38, .extract (.tmp 34) 1, y35, q35, e35, none⟩, ⟨some 7, .assign (.tmp 37), y36, q36, e36, none⟩, ⟨some 8, .assign (.tmp 38), y37, q37, e37, none⟩] false)
      (.seq (.region r12 #[⟨some 39, .move (.tmp 8), y38, q38, e38, none⟩, ⟨some 40, .move (.tmp 39), y39, q39, e39, none⟩, ⟨some 41, .move (.tmp 5), z3, p3, j3, some (1, true)⟩, ⟨some 42, .move (.tmp 7), z4, p4, j4, some (1, true)⟩,
          ⟨some 43, .call { callee := .value (.func 10), args := #[.tmp 41, .tmp 42], argTypes := us7 }, z5, p5, j5, some (1, true)⟩, ⟨some 44, .pick (.tmp 40) (.tmp 43) (.const (.bool false)), y40, q40, e40, none⟩, ⟨some 2, .assign (.tmp 44), y41, q41, e41, none⟩] false) .ret)))))))))
    (hres : func.results = #[.tmp 2]) (hNf : func.ntmps = 45) (eL : Enters Tryd.prog fL) (eA : Enters Tryd.prog fA)
    (hL : LaysM fL fs (-1)) (hA : AgK0 fA fs) (hsch : SchOK (fun _ => false) 0 fs) (hr0 : kL fs + 6 ≤ 1000) (hok : AnyOK (fun _ => false) 0 (verF 0 :: fs))
    {w : World} {G : Nat → Prop} {oa : Option Addr} {bs : Bs} {cap : Nat} (hbs : zau w G oa bs) (_hcap : bs.length ≤ cap) (_hlen : bs.length ≤ 1048576) (herr : ErrW w) :
    zaD Tryd.prog fn #[.slice oa bs.length cap] w fun v w' => v = .bool true ∧ Chg (fun _ => False) w w' := by
  refine zaA hfn hbody hres hNf (by simp) ?_
  intro a hN hD ha
  have g0 : get a 0 = .slice oa bs.length cap := ha 0 _ rfl
  have hkv : keyV (.mk 0 [] false [] []) := by unfold keyV keyL; simp
  have htb : zaN (.mk 0 [] false [] []) ≤ 1048576 := by unfold zaN za4 zaX; decide
  obtain ⟨hkl, _, s0, hdec0, henc0⟩ := kp_tree (k := 0) (ver := 0) (v := .mk 0 [] false [] []) hsch (by omega) (by omega) (by omega) hr0 hkv htb
  have hsl : (sPart false 0 fs (.mk 0 [] false [] [])).length ≤ SLIM := by
    have : (kB 0 fs (.mk 0 [] false [] [])).length = 2 + (sPart false 0 fs (.mk 0 [] false [] [])).length := by unfold kB; rw [List.length_append, be_length]
    unfold RLIM at hkl; unfold SLIM; omega
  have hout0 : ∀ s' r', zaF false 0 (verF 0 :: fs) (kB 0 fs (.mk 0 [] false [] [])) = some (s', r') → (zaH false 0 (verF 0 :: fs) s').length ≤ LIM := fun s' r' h => by
    rw [hdec0] at h
    simp only [Option.some.injEq, Prod.mk.injEq] at h
    obtain ⟨rfl, _⟩ := h
    rw [henc0]; unfold RLIM at hkl; unfold LIM; omega
  have htz : ∀ w, TrC w (fun _ => False) (.mk 0 [] false [] []) [.int .i64 0, .slice none 0 0, .bool false, .slice none 0 0, .slice none 0 0] := fun w => by
    unfold TrC
    exact ⟨none, 0, none, 0, .slice none 0 0, rfl, rfl, Nat.le_refl _, Nat.le_refl _, .inl rfl, .inl rfl, none, 0, rfl, Nat.le_refl _, .inl rfl⟩
  refine wp_seq_k fun K hK => ?_; refine zag ?_; (repeat ((with_reducible refine wl_p ?_ ?_ ?_); (· simp [evb, pvb, rnb, kb, hN, dyb, sdb] <;> omega); (· kernel_rfl); try simp only [evb, pvb, rnb, kb, hN, seval])); refine zad ?_; refine hK _ _ ?_; clear hK K
  refine wp_seq_k fun K hK => ?_; refine wp_seq_k fun K0 hK0 => ?_; refine zag ?_; (repeat ((with_reducible refine wl_p ?_ ?_ ?_); (· simp [evb, pvb, rnb, kb, hN, g0, dyb, sdb] <;> omega); (· kernel_rfl); try simp only [evb, pvb, rnb, kb, hN, seval, g0]))
  refine zad ?_
  refine hK0 _ _ ?_; try clear hK0 K0
  refine wp_cond_false (by simp [evb, kb, hN, sdb]; omega) ?_
  refine wp_skip ?_
  refine hK _ _ ?_
  clear hK K
  refine wp_seq_k fun K hK => ?_; refine wp_seq_k fun K0 hK0 => ?_; refine zag ?_; (repeat ((with_reducible refine wl_p ?_ ?_ ?_); (· simp [evb, pvb, rnb, kb, hN, g0, dyb, sdb] <;> omega); (· kernel_rfl); try simp only [evb, pvb, rnb, kb, hN, seval, g0]))
  refine zad ?_
  refine hK0 _ _ ?_; try clear hK0 K0
  by_cases h1000 : bs.length ≤ 1000
  case neg =>
    refine wp_cond_true (by simp [evb, kb, hN, sdb]; omega) ?_
    refine wp_seq_k fun K hK => ?_; refine zag ?_; (repeat ((with_reducible refine wl_p ?_ ?_ ?_); (· simp [evb, pvb, rnb, kb, hN, dyb, sdb] <;> omega); (· kernel_rfl); try simp only [evb, pvb, rnb, kb, hN, seval])); refine zad ?_; refine hK _ _ ?_; clear hK K; refine wp_ret ⟨by simp [zab, hD], ?_⟩; simp only [evb, kb, hN, seval]
    exact ⟨by simp, Chg.refl _ _⟩
  refine wp_cond_false (by simp [evb, kb, hN, sdb]; omega) ?_
  refine wp_skip ?_
  refine hK _ _ ?_
  clear hK K
  have hlaw := fun s r h => any_law (s := s) (r := r) (hok.good 0 (by omega) (by omega)) hok.df (by omega : bs.length ≤ 32767) h
  refine wp_seq_k fun K hK => ?_; refine zag ?_
  refine zaC eL (by simp only [List.map_toArray, List.map_nil]; exact hL w) ?_
  rintro _ w1 ⟨sv, rfl, hsv, hc1⟩
  refine wl_build (l := [.int .i64 0, .slice none 0 0, .bool false, .slice none 0 0, .slice none 0 0]) (by simp only [List.map_toArray, List.map_nil]; kernel_rfl) ?_
  refine zaC (fun args w => Tryd.call7 args w) (by simp only [List.map_toArray, List.map_cons, List.map_nil, evb, kb, hN, seval]; exact Kept_c fs 0 _ hsch.ok hsch.len (trok_bulk (by unfold LIM; omega)) hsl hsv (htz w1)) ?_
  rintro v2 w2 ⟨ho2, hc2⟩
  have hcw2 : Chg (fun _ => False) w w2 := hc1.trans hc2 fun _ _ h => h
  obtain ⟨oa2, cap2, rfl, _, hb2⟩ := ho2.bytes
  have hE2 := herr.chg hcw2 (fun h => h)
  refine zaC eA (by simp only [List.map_toArray, List.map_cons, List.map_nil, evb, kb, hN, seval]; exact hA _ _ oa2 _ cap2 hb2 hkl hE2 hout0) ?_
  rintro v3 w3 ⟨hc3, hq⟩
  have hcw3 : Chg (fun _ => False) w w3 := hcw2.trans hc3 fun _ _ h => h
  rcases hq with ⟨h, _⟩ | ⟨s', r', out0, _, rfl, _⟩
  · rw [hdec0] at h; cases h
  (repeat ((with_reducible refine wl_p ?_ ?_ ?_); (· simp [evb, pvb, rnb, kb, hN, exV, exOK, dyb, sdb] <;> omega); (· kernel_rfl); try simp only [evb, pvb, rnb, kb, hN, seval, exV, exOK])); refine zad ?_; refine hK _ _ ?_; clear hK K
  have hE3 := herr.chg hcw3 (fun h => h)
  have hb3 : zau w3 G oa bs := hbs.chg hcw3 fun _ _ _ h => h
  refine wp_seq_k fun K hK => ?_; refine zag ?_; (repeat ((with_reducible refine wl_p ?_ ?_ ?_); (· simp [evb, pvb, rnb, kb, hN, g0, dyb, sdb] <;> omega); (· kernel_rfl); try simp only [evb, pvb, rnb, kb, hN, seval, g0]))
  have hout1 : ∀ s r, zaF false 0 (verF 0 :: fs) bs = some (s, r) → (zaH false 0 (verF 0 :: fs) s).length ≤ LIM := fun s r h => by
    obtain ⟨_, _, _, h3⟩ := hlaw s r h
    unfold LIM; omega
  refine zaC eA (by simp only [List.map_toArray, List.map_cons, List.map_nil, evb, kb, hN, seval]; exact hA _ _ oa bs cap hb3 (by unfold RLIM; omega) hE3 hout1) ?_
  rintro v4 w4 ⟨hc4, hq⟩
  have hcw4 : Chg (fun _ => False) w w4 := hcw3.trans hc4 fun _ _ h => h
  rcases hq with ⟨_, rfl⟩ | ⟨s, r, out, hdec, rfl, hown⟩
  · (repeat ((with_reducible refine wl_p ?_ ?_ ?_); (· simp [evb, pvb, rnb, kb, hN, exV, exOK, dyb, sdb] <;> omega); (· kernel_rfl); try simp only [evb, pvb, rnb, kb, hN, seval, exV, exOK])); refine zad ?_; refine hK _ _ ?_; clear hK K
    refine wp_seq_k fun K hK => ?_; refine wp_seq_k fun K0 hK0 => ?_; refine zag ?_; (repeat (first | ((with_reducible refine wl_p ?_ ?_ ?_); (· simp [evb, pvb, rnb, kb, hN, seval, pickV, dyb, sdb] <;> omega); (· kernel_rfl); try simp only [evb, pvb, rnb, kb, hN, seval, pickV]) | ((with_reducible apply zal); (· exact rfl); (· exact rfl); (· simp [evb, pvb, rnb, kb, hN, seval, pickV]; done); try simp only [evb, pvb, rnb, kb, hN, seval, pickV]) | ((with_reducible apply zao); (· exact rfl); (· exact rfl); (· simp [evb, pvb, rnb, kb, hN, seval, pickV]; done); try simp only [evb, pvb, rnb, kb, hN, seval, pickV]) | ((with_reducible apply zap); (· exact rfl); (· exact rfl); (· simp [evb, pvb, rnb, kb, hN, seval, pickV]; done); try simp only [evb, pvb, rnb, kb, hN, seval, pickV])))
    refine zad ?_
    refine hK0 _ _ ?_; try clear hK0 K0
    refine wp_cond_true (by simp [evb, kb, hN, sdb]) ?_
    refine wp_seq_k fun K hK => ?_; refine zag ?_; (repeat ((with_reducible refine wl_p ?_ ?_ ?_); (· simp [evb, pvb, rnb, kb, hN, dyb, sdb] <;> omega); (· kernel_rfl); try simp only [evb, pvb, rnb, kb, hN, seval])); refine zad ?_; refine hK _ _ ?_; clear hK K; refine wp_ret ⟨by simp [zab, hD], ?_⟩; simp only [evb, kb, hN, seval]
    exact ⟨by simp, hcw4⟩
  obtain ⟨s', hd2, he2, hl2⟩ := hlaw s r hdec
  generalize zaH false 0 (verF 0 :: fs) s = en at hown hd2 he2 hl2
  obtain ⟨oa4, cap4, rfl, hcap4, hb4⟩ := hown.bytes
  have hE4 := herr.chg hcw4 (fun h => h)
  (repeat ((with_reducible refine wl_p ?_ ?_ ?_); (· simp [evb, pvb, rnb, kb, hN, exV, exOK, dyb, sdb] <;> omega); (· kernel_rfl); try simp only [evb, pvb, rnb, kb, hN, seval, exV, exOK])); refine zad ?_; refine hK _ _ ?_; clear hK K
  refine wp_seq_k fun K hK => ?_; refine wp_seq_k fun K0 hK0 => ?_; refine zag ?_; (repeat (first | ((with_reducible refine wl_p ?_ ?_ ?_); (· simp [evb, pvb, rnb, kb, hN, seval, pickV, dyb, sdb] <;> omega); (· kernel_rfl); try simp only [evb, pvb, rnb, kb, hN, seval, pickV]) | ((with_reducible apply zal); (· exact rfl); (· exact rfl); (· simp [evb, pvb, rnb, kb, hN, seval, pickV]; done); try simp only [evb, pvb, rnb, kb, hN, seval, pickV]) | ((with_reducible apply zao); (· exact rfl); (· exact rfl); (· simp [evb, pvb, rnb, kb, hN, seval, pickV]; done); try simp only [evb, pvb, rnb, kb, hN, seval, pickV]) | ((with_reducible apply zap); (· exact rfl); (· exact rfl); (· simp [evb, pvb, rnb, kb, hN, seval, pickV]; done); try simp only [evb, pvb, rnb, kb, hN, seval, pickV])))
  refine zad ?_
  refine hK0 _ _ ?_; try clear hK0 K0
  refine wp_cond_false (by simp [evb, kb, hN, sdb]) ?_
  refine wp_skip ?_
  refine hK _ _ ?_
  clear hK K
  refine wp_seq_k fun K hK => ?_; refine zag ?_; (repeat ((with_reducible refine wl_p ?_ ?_ ?_); (· simp [evb, pvb, rnb, kb, hN, dyb, sdb] <;> omega); (· kernel_rfl); try simp only [evb, pvb, rnb, kb, hN, seval]))
  have hout2 : ∀ s2 r2, zaF false 0 (verF 0 :: fs) en = some (s2, r2) → (zaH false 0 (verF 0 :: fs) s2).length ≤ LIM := fun s2 r2 h => by
    rw [hd2] at h
    simp only [Option.some.injEq, Prod.mk.injEq] at h
    obtain ⟨rfl, _⟩ := h
    rw [he2]; unfold LIM; omega
  refine zaC eA (by simp only [List.map_toArray, List.map_cons, List.map_nil, evb, kb, hN, seval]; exact hA _ _ oa4 en cap4 hb4 (by unfold RLIM; omega) hE4 hout2) ?_
  rintro v5 w5 ⟨hc5, hq⟩
  rcases hq with ⟨h, _⟩ | ⟨s2, r2, out2, h, rfl, hown3⟩
  · rw [hd2] at h; cases h
  rw [hd2] at h
  simp only [Option.some.injEq, Prod.mk.injEq] at h
  obtain ⟨rfl, rfl⟩ := h
  rw [he2] at hown3
  obtain ⟨oa5, cap5, rfl, _, hb5⟩ := hown3.bytes
  (repeat ((with_reducible refine wl_p ?_ ?_ ?_); (· simp [evb, pvb, rnb, kb, hN, exV, exOK, dyb, sdb] <;> omega); (· kernel_rfl); try simp only [evb, pvb, rnb, kb, hN, seval, exV, exOK])); refine zad ?_; refine hK _ _ ?_; clear hK K
  refine wp_seq_k fun K hK => ?_; refine zag ?_; (repeat (first | ((with_reducible refine wl_p ?_ ?_ ?_); (· simp [evb, pvb, rnb, kb, hN, seval, dyb, sdb] <;> omega); (· kernel_rfl); try simp only [evb, pvb, rnb, kb, hN, seval]) | ((with_reducible apply zal); (· exact rfl); (· exact rfl); (· simp [evb, pvb, rnb, kb, hN, seval]; done); try simp only [evb, pvb, rnb, kb, hN, seval]) | ((with_reducible apply zao); (· exact rfl); (· exact rfl); (· simp [evb, pvb, rnb, kb, hN, seval]; done); try simp only [evb, pvb, rnb, kb, hN, seval]) | ((with_reducible apply zap); (· exact rfl); (· exact rfl); (· simp [evb, pvb, rnb, kb, hN, seval]; done); try simp only [evb, pvb, rnb, kb, hN, seval])))
  refine zaC (fun args w => Tryd.call10 args w) (by simp only [List.map_toArray, List.map_cons, List.map_nil, evb, kb, hN, seval]; exact Same_c _ _ (hb4.chg hc5 fun _ _ _ h => h) hb5 (by unfold LIM; omega)) ?_
  rintro _ w6 ⟨rfl, hc6⟩
  (repeat ((with_reducible refine wl_p ?_ ?_ ?_); (· simp [evb, pvb, rnb, kb, hN, pickV, dyb, sdb] <;> omega); (· kernel_rfl); try simp only [evb, pvb, rnb, kb, hN, seval, pickV])); refine zad ?_; refine hK _ _ ?_; clear hK K; refine wp_ret ⟨by simp [zab, hD], ?_⟩; simp only [evb, kb, hN, seval]
  exact ⟨by simp, (hcw4.trans hc5 fun _ _ h => h).trans hc6 fun _ _ h => h⟩
end
end Go.Proofs.YtgjnllebnkjofaaDoor
