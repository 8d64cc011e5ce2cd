import Derived.Test.YtidlpocllgleiaaGreatDoorZX
import Derived.Test.YtidlpocllgleiaaGreatDoorZE
import Derived.Test.YtidlpocllgleiaaGreatDoorZW
import Derived.Test.YtidlpocllgleiaaGreatDoorZN
/-
What the proofs of the laws rest on, part ZQ.
-/
namespace Go.Proofs.YtidlpocllgleiaaGreatDoor
set_option linter.all false
open Go.RowKit
set_option maxRecDepth 10000
set_option maxHeartbeats 2000000
def ReadKPf (w : World) (vf ver : Int) (fs : List Fld) (B : Nat) (bs : Bs) (v : Value) (w' : World) : Prop := Chg (fun k => k = B) w w' ∧
  ((zba (decide (vf ≤ ver)) ver fs bs = none ∧ ∃ t x, v = .iface t x) ∨ ∃ s r, zba (decide (vf ≤ ver)) ver fs bs = some (s, r) ∧ v = .nilIface ∧ At w' (fun g => g ≠ B) true fs s B 0)
def ReadsKf (fn : FuncId) (vf : Int) (ok : Int → Prop) (fs : List Fld) (dc : List Value) : Prop :=
  ∀ (ver : Int) (w : World) (B : Nat) (T : TypeId) (oa : Option Addr) (bs : Bs) (cap : Nat), ok ver → (∀ y, rS 2 bs = some y → y.1 = ver) → Blk w B (.int .i16 0 :: dc) T → zaw w (fun g => g ≠ B) oa bs → bs.length ≤ cap → bs.length ≤ RLIM → B ≠ gE → ErrW w →
    zaF Tryz.prog fn #[.pointer (some ⟨B, 0, none⟩), .slice oa bs.length cap, .bool false] w (ReadKPf w vf ver fs B bs)
section
variable {y0 y1 y2 y3 y4 y5 y6 y7 y8 y9 y10 y11 y12 y13 y14 y15 y16 y17 y18 y19 y20 y21 y22 y23 y24 y25 y26 y27 y28 y29 y30 y31 y32 y33 y34 y35 y36 y37 y38 y39 : TypeId} {q0 q1 q2 q3 q4 q5 q6 q7 q8 q9 q10 q11 q12 q13 q14 q15 q16 q17 q18 q19 q20 q21 q22 q23 q24 q25 q26 q27 q28 q29 q30 q31 q32 q33 q34 q35 q36 q37 q38 q39 : String} {e0 e1 e2 e3 e4 e5 e6 e7 e8 e9 e10 e11 e12 e13 e14 e15 e16 e17 e18 e19 e20 e21 e22 e23 e24 e25 e26 e27 e28 e29 e30 e31 e32 e33 e34 e35 e36 e37 e38 e39 : Array Edge} {r0 r1 r2 r3 r4 r5 : Nat}
variable {r6 r7 r8 r9 r10 r11 r12 r13 : Nat} {us us1 us2 us3 us4 : Array TypeId}
theorem read_keptF {vf : Int} {w1' w2' w3' uf : Nat} {ok : Int → Prop} {fn : FuncId} {func : Func} {N t1 t2 t3 t4 T ty ty2 v1 v2 v3 v4 v5 v6 u1 u2 u3 u4 fnD : Nat} {fr : Int} {fs1 : List Fld} {c : Code} {dc : List Value} (h0k : ok 0) (hokr : ∀ ver, ok ver → fr ≤ ver)
    (hfn : (Tryz.prog).funcs[fn]? = some func)
    (hbody : func.body = some (.seq (.region r0 #[⟨some 6, .assign (.const .nilIface), y0, q0, e0, none⟩] false) (.seq (.region r1 #[⟨some t1, .move (.tmp 0), y1, q1, e1, none⟩, ⟨some t2, .call { callee := .value (.func fnD), args := #[.tmp t1], argTypes := us }, y2, q2, e2, none⟩] false)
      (.seq (.region r2 #[⟨some t3, .move (.tmp 1), y3, q3, e3, none⟩, ⟨some t4, .build tR #[(0, .tmp t3)], y4, q4, e4, none⟩, ⟨some 7, .alloc tR, y5, q5, e5, none⟩, ⟨none, .store tR (.tmp 7) (.tmp t4), y6, q6, e6, none⟩] false)
        (.seq (.region r5 #[⟨some u1, .move (.tmp 0), y7, q7, e7, none⟩, ⟨some u2, .call { callee := .value (.func 41), args := #[.tmp 7], argTypes := us2 }, y8, q8, e8, none⟩, ⟨some u3, .nilCheck (.tmp u1), y9, q9, e9, none⟩, ⟨some u4, .fieldAddr T (.tmp u3) 0, y10, q10, e10, none⟩, ⟨none, .store ty2 (.tmp u4) (.tmp u2), y11, q11, e11, none⟩] false)
        (.seq (.region r3 #[⟨some v1, .move (.tmp 0), y12, q12, e12, none⟩, ⟨some v2, .nilCheck (.tmp v1), y13, q13, e13, none⟩, ⟨some v3, .fieldAddr T (.tmp v2) 0, y14, q14, e14, none⟩, ⟨some v4, .load ty (.tmp v3), y15, q15, e15, none⟩, ⟨some 8, .assign (.tmp v4), y16, q16, e16, none⟩] false)
        (.seq (.region r4 #[⟨some v5, .move (.tmp 8), y17, q17, e17, none⟩] false) (.seq (.region r8 #[⟨some w1', .move (.tmp 8), y18, q18, e18, none⟩, ⟨some w2', .binOp .geq uf (.tmp w1') (.const (.int .i16 vf)) uf, y19, q19, e19, none⟩, ⟨some 9, .assign (.tmp w2'), y20, q20, e20, none⟩] false) (.seq (.region r9 #[⟨some w3', .move (.tmp 9), y21, q21, e21, none⟩] false) (.seq (.region r7 #[⟨some v6, .move (.tmp 0), y22, q22, e22, none⟩, ⟨some 10, .assign (.tmp v6), y23, q23, e23, none⟩] false) c))))))))))
    (hres : func.results = #[.tmp 6]) (hNf : func.ntmps = N) (hen : zaZ Tryz.prog fnD) (hdef : DefM fnD dc)
    (hF : ((decide ((0 :: 1 :: 2 :: 6 :: 7 :: 8 :: 9 :: 10 :: [t1, t2, t3, t4]).Nodup) && [0, 1, 2, 6, 7, 8, t1, t2, t3, t4].all (fun t => decide (t < N))) && decide ((0 :: 1 :: 2 :: 7 :: 8 :: 9 :: 10 :: [v1, v2, v3, v4, v5, v6, u1, u2, u3, u4, w1', w2', w3']).Nodup) && [8, 9, 10, v1, v2, v3, v4, v5, v6, u1, u2, u3, u4, w1', w2', w3'].all (fun t => decide (t < N)) && fieldB Tryz.prog T 0 0 1 && scalB Tryz.prog ty && sizeB Tryz.prog ty2 1 &&
      repSB true fs1 (dfltL fs1) dc && decide (dc.length = ssz true fs1)) = true)
    (h : ∀ ver : Int, ok ver → RtC ⟨N, ver, decide (vf ≤ ver), true⟩ 11 10 0 (.mk .i16 fr (-1) (-1) (-1) 0 .bool [] :: fs1) (Fresh (.mk .i16 fr (-1) (-1) (-1) 0 .bool [] :: fs1) 1) (semL ⟨N, ver, decide (vf ≤ ver), true⟩ (.mk .i16 fr (-1) (-1) (-1) 0 .bool [] :: fs1) 1 (tlP ⟨N, ver, decide (vf ≤ ver), true⟩ (.mk .i16 fr (-1) (-1) (-1) 0 .bool [] :: fs1))) c) :
    ReadsKf fn vf ok (.mk .i16 fr (-1) (-1) (-1) 0 .bool [] :: fs1) dc := by
  simp only [Bool.and_eq_true, decide_eq_true_eq (p := List.Nodup _), decide_eq_true_eq (p := dc.length = _)] at hF
  obtain ⟨⟨⟨⟨⟨⟨⟨hF0, hnd⟩, hlt⟩, f1⟩, f2⟩, f5⟩, f3⟩, f4⟩ := hF
  simp only [List.all_eq_true, decide_eq_true_eq] at hlt
  simp only [List.nodup_cons, List.mem_cons, List.not_mem_nil, or_false, not_or, List.nodup_nil, and_true, not_false_eq_true, forall_eq_or_imp, forall_eq] at hnd hlt
  intro ver w B Tm oa bs cap hver hvr hb hsrc hcap hlim hBE herr
  refine zar hfn hbody hres hNf (by show 3 ≤ N; omega) ?_
  intro a hN hD ha
  have h0 : get a 0 = .pointer (some ⟨B, 0, none⟩) := ha 0 _ rfl
  have h1 : get a 1 = .slice oa bs.length cap := ha 1 _ rfl
  have h2 : get a 2 = .bool false := ha 2 _ rfl
  refine read_start hN hD h0 h1 (by simp only [Bool.and_eq_true]; exact ⟨decide_eq_true hF0.1, hF0.2⟩) hen hdef hb hsrc hcap hlim hBE herr fun a1 w1 R hk g7 hr hb1 hc hR1 hR2 hRB herr1 => ?_
  have hN1 : a1.tmps.size = N := hk.size.trans hN
  have hD1 : a1.defers = [] := hk.defers.trans hD
  have g0 : get a1 0 = .pointer (some ⟨B, 0, none⟩) := (hk.slot 0 (.inl rfl)).trans h0
  have g2 : get a1 2 = .bool false := (hk.slot 2 (.inr (.inr rfl))).trans h2
  clear hF0 hk ha h0 h1 h2
  have hgE := gE_lt herr
  have hBlt := hb.lt
  refine wp_seq_k fun K hK => ?_
  refine zaf ?_
  refine zav ?_
  simp only [zad, zai, zaa, zab, zah, ne_eq, zag, hN1, hnd, hlt, not_false_eq_true, g0, g2, g7]
  refine zaG (fun args w => Tryz.call41 args w) (by
    simp only [List.map_toArray, List.map_cons, List.map_nil, zad, zai, zaa, zab, zah, ne_eq, zag, hN1, hnd, hlt, not_false_eq_true, g0, g2, g7]
    exact Int16_z w1 (fun g => ¬ (g = B ∨ g = R)) R (some bs) hr (fun h => h (.inr rfl)) (fun k hk h => by rcases h with h | h; have := hb1.lt; omega; omega)) ?_
  rintro xv w2 ⟨hq, hz⟩
  obtain ⟨x, rfl, hx⟩ := hq.val
  have hrd := hq.rd
  have hc2 := hq.chg
  have hxo : ok x := by
    cases hh : rS 2 bs with
    | none => have := hz hh; cases this; exact h0k
    | some y => rw [hx y hh, hvr y hh]; exact hver
  have hsem : zba (decide (vf ≤ ver)) ver (.mk .i16 fr (-1) (-1) (-1) 0 .bool [] :: fs1) bs = ((rS 2 bs).map (·.2)).bind (semL ⟨N, x, decide (vf ≤ x), true⟩ (.mk .i16 fr (-1) (-1) (-1) 0 .bool [] :: fs1) 1 (tlP ⟨N, x, decide (vf ≤ x), true⟩ (.mk .i16 fr (-1) (-1) (-1) 0 .bool [] :: fs1)) ⟨(dfltL (.mk .i16 fr (-1) (-1) (-1) 0 .bool [] :: fs1)).set 0 (.int x), []⟩) := by
    have e := part_sem ⟨N, ver, decide (vf ≤ ver), true⟩ (.mk .i16 fr (-1) (-1) (-1) 0 .bool [] :: fs1) bs
    refine e.trans ?_
    rw [semL_step (f := .mk .i16 fr (-1) (-1) (-1) 0 .bool []) rfl (fresh0 _) (dfltL_len _)]
    unfold semFld
    have hhas : (decide ((Fld.mk .i16 fr (-1) (-1) (-1) 0 .bool []).tag < 0) && (Fld.mk .i16 fr (-1) (-1) (-1) 0 .bool []).has ver) = true := by
      have := hokr ver hver
      simp [Fld.tag, Fld.has, Fld.from_, Fld.to, this]
    rw [if_pos hhas]
    unfold semSet
    have hd : decF (decide (vf ≤ ver)) ver (.mk .i16 fr (-1) (-1) (-1) 0 .bool []) bs = (rS 2 bs).map fun y => (.int y.1, y.2) := by unfold decF; rfl
    rw [hd]
    cases hh : rS 2 bs with
    | none => rfl
    | some y =>
      have e1 := hx y hh
      have e2 := hvr y hh
      obtain ⟨y1, y2⟩ := y
      simp only at e1 e2
      subst e1 e2
      rfl
  have hb2 : Blk w2 B (.int .i16 0 :: dc) Tm := hb1.chg hc2 (fun e => hRB e.symm)
  refine zaV (p := ⟨B, 0, none⟩) (by simp only [zad, zai, zaa, zab, zah, ne_eq, zag, hN1, hnd, hlt, not_false_eq_true, g0, g2, g7]) ?_
  refine zaU (b := B) (o := 0) f1 (by simp only [zad, zai, zaa, zab, zah, ne_eq, zag, hN1, hnd, hlt, not_false_eq_true, g0, g2, g7]) ?_
  refine za3 (b := B) (o := 0 + 0) (n := 1) (v := .int .i16 x) f5 (by simp only [zad, zai, zaa, zab, zah, ne_eq, zag, hN1, hnd, hlt, not_false_eq_true, g0, g2, g7]) (by simp only [zad, zai, zaa, zab, zah, ne_eq, zag, hN1, hnd, hlt, not_false_eq_true, g0, g2, g7]) hb2 rfl (by intro y hy; simp only [Value.cells, List.mem_singleton] at hy; subst hy; rfl) (by simp) fun w3 hb3 hc3 => ?_
  refine zac (hK _ _ ?_)
  clear hK K
  rw [put_none]
  have hcs : zaA (Value.int .i16 0 :: dc) (0 + 0) (Value.int .i16 x).cells.toList = .int .i16 x :: dc := by simp only [zaA, Nat.zero_add, List.take_zero, List.nil_append]; rfl
  rw [hcs] at hb3
  have hrd3 : RdS w3 (fun g => ¬ (g = B ∨ g = R)) R ((rS 2 bs).map (·.2)) := hrd.stay (Stay.of hc3 fun k hk _ e => hk (.inl e)) (hc3.block R hrd.lt hRB)
  have hall : Chg (fun k => k = B) w w3 := (hc.trans hc2 fun k hk e => by omega).trans hc3 fun _ _ e => e
  refine wp_seq_k fun K hK => ?_
  refine zaf ?_
  refine zav ?_
  simp only [zad, zai, zaa, zab, zah, ne_eq, zag, hN1, hnd, hlt, not_false_eq_true, g0, g2, g7]
  refine zaV (p := ⟨B, 0, none⟩) (by simp only [zad, zai, zaa, zab, zah, ne_eq, zag, hN1, hnd, hlt, not_false_eq_true, g0, g2, g7]) ?_
  refine zaU (b := B) (o := 0) f1 (by simp only [zad, zai, zaa, zab, zah, ne_eq, zag, hN1, hnd, hlt, not_false_eq_true, g0, g2, g7]) ?_
  refine zaM (b := B) (o := 0 + 0) f2 (by simp only [zad, zai, zaa, zab, zah, ne_eq, zag, hN1, hnd, hlt, not_false_eq_true, g0, g2, g7]) hb3 rfl ?_
  refine zan ?_
  simp only [zad, zai, zaa, zab, zah, ne_eq, zag, hN1, hnd, hlt, not_false_eq_true, g0, g2, g7]
  refine zac (hK _ _ ?_)
  clear hK K
  refine wp_seq_k fun K hK => ?_
  refine zaf ?_
  refine zav ?_
  simp only [zad, zai, zaa, zab, zah, ne_eq, zag, hN1, hnd, hlt, not_false_eq_true, g0, g2, g7]
  refine zac (hK _ _ ?_)
  clear hK K
  refine wp_seq_k fun K hK => ?_
  refine zaf ?_
  refine zav ?_
  simp only [zad, zai, zaa, zab, zah, ne_eq, zag, hN1, hnd, hlt, not_false_eq_true, g0, g2, g7]
  refine wl_geq (by simp only [zad, zai, zaa, zab, zah, ne_eq, zag, hN1, hnd, hlt, not_false_eq_true, g0, g2, g7]; rfl) ?_
  simp only [zad, zai, zaa, zab, zah, ne_eq, zag, hN1, hnd, hlt, not_false_eq_true, g0, g2, g7, cmp2]
  refine zan ?_
  simp only [zad, zai, zaa, zab, zah, ne_eq, zag, hN1, hnd, hlt, not_false_eq_true, g0, g2, g7]
  refine zac (hK _ _ ?_)
  clear hK K
  refine wp_seq_k fun K hK => ?_
  refine zaf ?_
  refine zav ?_
  simp only [zad, zai, zaa, zab, zah, ne_eq, zag, hN1, hnd, hlt, not_false_eq_true, g0, g2, g7]
  refine zac (hK _ _ ?_)
  clear hK K
  refine wp_seq_k fun K hK => ?_
  refine zaf ?_
  refine zav ?_
  simp only [zad, zai, zaa, zab, zah, ne_eq, zag, hN1, hnd, hlt, not_false_eq_true, g0, g2, g7]
  refine zan ?_
  simp only [zad, zai, zaa, zab, zah, ne_eq, zag, hN1, hnd, hlt, not_false_eq_true, g0, g2, g7]
  refine zac (hK _ _ ?_)
  clear hK K
  have hlim3 : stLen ((rS 2 bs).map (·.2)) ≤ RLIM := by
    cases hh : rS 2 bs with
    | none => exact Nat.zero_le _
    | some y =>
      have : y.2.length ≤ bs.length := by
        unfold rS take? at hh
        split at hh
        · simp only [Option.map_some, Option.some.injEq] at hh; rw [← hh]; simp only [List.length_drop]; omega
        · cases hh
      exact Nat.le_trans this hlim
  have hE3 := herr.chg hall (fun e => hBE e.symm)
  have hat : At w3 (fun g => ¬ (g = B ∨ g = R)) true (.mk .i16 fr (-1) (-1) (-1) 0 .bool [] :: fs1) ⟨(dfltL (.mk .i16 fr (-1) (-1) (-1) 0 .bool [] :: fs1)).set 0 (.int x), []⟩ B (0 + 0) := by
    clear hnd
    obtain ⟨p1, p2, e, k1, k2⟩ := (repSB_out f3 : RepS w3 (fun g => ¬ (g = B ∨ g = R)) true fs1 ⟨dfltL fs1, []⟩ dc)
    have hl : ssz true (.mk .i16 fr (-1) (-1) (-1) 0 .bool [] :: fs1) = 1 + dc.length := by
      rw [f4]; simp [ssz, lsz, fsz, ksz]; omega
    refine ⟨.int .i16 x :: dc, Tm, hb3, by rw [hl]; simp only [List.length_cons]; omega, ?_⟩
    rw [List.drop_zero, List.take_of_length_le (by rw [hl]; simp only [List.length_cons]; omega)]
    refine ⟨.int .i16 x :: p1, p2, by rw [e]; rfl, ?_, k2⟩
    show RepL _ _ _ (_ :: fs1) (.int x :: dfltL fs1) _
    unfold RepL
    exact ⟨.int x, dfltL fs1, [.int .i16 x], p1, rfl, rfl, rfl, by unfold RepF; rfl, k1⟩
  refine wp_mono (h x hxo _ w3 (fun g => g = B ∨ g = R) R B 0 ((rS 2 bs).map (·.2)) ⟨(dfltL (.mk .i16 fr (-1) (-1) (-1) 0 .bool [] :: fs1)).set 0 (.int x), []⟩
    ⟨⟨by simp only [zag, hN1], by simp only [zae, hD1], by simp only [zad, zai, zaa, zab, zah, ne_eq, zag, hN1, hnd, hlt, not_false_eq_true, g0, g2, g7], by simp only [zad, zai, zaa, zab, zah, ne_eq, zag, hN1, hnd, hlt, not_false_eq_true, g0, g2, g7], fun _ => by simp only [zad, zai, zaa, zab, zah, ne_eq, zag, hN1, hnd, hlt, not_false_eq_true, g0, g2, g7]⟩, by simp only [zad, zai, zaa, zab, zah, ne_eq, zag, hN1, hnd, hlt, not_false_eq_true, g0, g2, g7], hrd3, .inr rfl, fun h => by clear hnd; rcases h with h | h; exact hBE h.symm; omega, hE3, fun k hk h => by clear hnd; have := hb3.lt; have := hrd3.lt; rcases h with h | h <;> omega, hlim3⟩
    ⟨by simp only [zad, zai, zaa, zab, zah, ne_eq, zag, hN1, hnd, hlt, not_false_eq_true, g0, g2, g7], hat, .inl rfl, hRB⟩ ?_) ?_
  · intro j f hj hf
    rw [List.getElem?_set_ne (by omega)]
    exact dfltL_get _ j f hf
  · clear hnd
    intro e a4 w4 hq
    cases e <;> try exact hq.elim
    obtain ⟨hd, hq⟩ := hq
    refine ⟨hd, ?_⟩
    rw [← hsem] at hq
    rcases hq with ⟨k1, ⟨t, xx, k2⟩, k3⟩ | ⟨s, r, k1, k2, k3, k4, k5⟩
    · exact ⟨hall.trans k3 fun k hk h => by rcases h with h | h; exact h; omega, .inl ⟨k1, t, xx, k2⟩⟩
    · refine ⟨hall.trans k3 fun k hk h => by rcases h with h | h; omega; exact h, .inr ⟨s, r, k1, k2, ?_⟩⟩
      rw [Nat.zero_add] at k4
      exact k4.stay (Stay.sub fun k _ h hb => h (.inl hb)) rfl
end
end Go.Proofs.YtidlpocllgleiaaGreatDoor
namespace Go.Proofs.YtidlpocllgleiaaGreatDoor
set_option linter.all false
open Go.RowKit
set_option maxRecDepth 10000
set_option maxHeartbeats 2000000
section
variable {y0 y1 y2 y3 y4 y5 y6 y7 y8 y9 y10 y11 y12 y13 y14 y15 y16 y17 y18 y19 y20 y21 y22 y23 y24 y25 y26 y27 y28 y29 y30 y31 y32 y33 y34 y35 y36 y37 y38 y39 : TypeId} {q0 q1 q2 q3 q4 q5 q6 q7 q8 q9 q10 q11 q12 q13 q14 q15 q16 q17 q18 q19 q20 q21 q22 q23 q24 q25 q26 q27 q28 q29 q30 q31 q32 q33 q34 q35 q36 q37 q38 q39 : String} {e0 e1 e2 e3 e4 e5 e6 e7 e8 e9 e10 e11 e12 e13 e14 e15 e16 e17 e18 e19 e20 e21 e22 e23 e24 e25 e26 e27 e28 e29 e30 e31 e32 e33 e34 e35 e36 e37 e38 e39 : Array Edge} {r0 r1 r2 r3 r4 r5 : Nat}
variable {r6 r7 r8 r9 r10 r11 r12 r13 : Nat} {us us1 us2 us3 us4 : Array TypeId}
end
end Go.Proofs.YtidlpocllgleiaaGreatDoor
namespace Go.Proofs.YtidlpocllgleiaaGreatDoor
set_option linter.all false
open Go.RowKit
set_option maxRecDepth 10000
set_option maxHeartbeats 2000000
abbrev verF (fr : Int) : Fld := .mk .i16 fr (-1) (-1) (-1) 0 .bool []
section
variable {y0 y1 y2 y3 y4 y5 y6 y7 y8 y9 y10 y11 y12 y13 y14 y15 y16 y17 y18 y19 y20 y21 y22 y23 y24 y25 y26 y27 y28 y29 y30 y31 y32 y33 y34 y35 y36 y37 y38 y39 : TypeId} {q0 q1 q2 q3 q4 q5 q6 q7 q8 q9 q10 q11 q12 q13 q14 q15 q16 q17 q18 q19 q20 q21 q22 q23 q24 q25 q26 q27 q28 q29 q30 q31 q32 q33 q34 q35 q36 q37 q38 q39 : String} {e0 e1 e2 e3 e4 e5 e6 e7 e8 e9 e10 e11 e12 e13 e14 e15 e16 e17 e18 e19 e20 e21 e22 e23 e24 e25 e26 e27 e28 e29 e30 e31 e32 e33 e34 e35 e36 e37 e38 e39 : Array Edge} {r0 r1 r2 r3 r4 r5 : Nat}
variable {r6 r7 r8 r9 r10 r11 r12 r13 : Nat} {us us1 us2 us3 us4 : Array TypeId}
def NewV (fn : FuncId) (dc : List Value) : Prop := ∀ w : World, zaF Tryz.prog fn #[] w fun v w' => v = zaT dc ∧ Chg (fun _ => False) w w'
end
end Go.Proofs.YtidlpocllgleiaaGreatDoor
namespace Go.Proofs.YtidlpocllgleiaaGreatDoor
set_option linter.all false
open Go.RowKit
set_option maxRecDepth 10000
set_option maxHeartbeats 2000000
theorem kf_dec {fx : Bool} {fr ver : Int} {fs : List Fld} {bs : Bs} (ht : anyTag fs = false) (hf : fr ≤ ver) : zba fx ver (verF fr :: fs) bs = (rS 2 bs).bind fun y => (zba fx ver fs y.2).map fun z => (⟨.int y.1 :: z.1.ds, z.1.tags⟩, z.2) := by
  have hd : decF fx ver (verF fr) bs = (rS 2 bs).map fun y => (.int y.1, y.2) := by unfold verF decF; rfl
  have hh : (decide ((verF fr).tag < 0) && (verF fr).has ver) = true := by simp [verF, Fld.tag, Fld.has, Fld.from_, Fld.to, hf]
  have ht' : anyTag (verF fr :: fs) = false := by unfold anyTag; rw [ht]; rfl
  unfold zba partOf
  rw [decL, if_pos hh, hd, ht, ht']
  cases h : rS 2 bs with
  | none => rfl
  | some y =>
    simp only [Option.map_some, Option.bind_some]
    cases h2 : decL fx ver fs y.2 with
    | none => rfl
    | some z =>
      simp only [Option.map_some, Option.bind_some]
      cases fx with
      | false => rfl
      | true =>
        simp only [if_true, Bool.false_eq_true, if_false]
        unfold semTags semIf
        simp only [if_true]
        cases h3 : rTags z.2 with
        | none => rfl
        | some u => rfl
theorem kf_enc {fx : Bool} {fr ver x : Int} {fs : List Fld} {ds : List D} {t : za5} (hf : fr ≤ ver) : encPart fx ver (verF fr :: fs) ⟨.int x :: ds, t⟩ = be 2 x ++ encPart fx ver fs ⟨ds, t⟩ := by
  have hh : (decide ((verF fr).tag < 0) && (verF fr).has ver) = true := by simp [verF, Fld.tag, Fld.has, Fld.from_, Fld.to, hf]
  have he : encF fx ver (verF fr) (.int x) = be 2 x := by unfold verF encF; rfl
  have hk : zaP fx ver (verF fr :: fs) (.int x :: ds) = zaP fx ver fs ds := by
    rw [zaP]
    try dsimp only
    rw [if_neg (fun h => by have := h.1; simp [verF, Fld.tag] at this)]
  unfold encPart
  rw [encL, if_pos hh, he]
  simp only [hk, List.append_assoc]
theorem kf_ver {fx : Bool} {fr ver : Int} {fs : List Fld} {bs : Bs} {s : S} {r : Bs} (ht : anyTag fs = false) (hf : fr ≤ ver) (h : zba fx ver (verF fr :: fs) bs = some (s, r)) (hv : ∀ y, rS 2 bs = some y → y.1 = ver) : s.ds[0]? = some (.int ver) := by
  rw [kf_dec ht hf] at h
  cases hr : rS 2 bs with
  | none => rw [hr] at h; cases h
  | some y =>
    have := hv y hr
    rw [hr, Option.bind_some] at h
    cases h2 : zba fx ver fs y.2 with
    | none => rw [h2] at h; cases h
    | some z =>
      rw [h2] at h
      simp only [Option.map_some, Option.some.injEq, Prod.mk.injEq] at h
      rw [← h.1, ← this]
      rfl
def AppendsKf (fn : FuncId) (vf : Int) (ok : Int → Prop) (fs : List Fld) : Prop :=
  ∀ (s : S) (ver : Int) (B : Nat) (w : World) (base : Nat) (v : Value) (bs : Bs), ok ver → s.ds[0]? = some (.int ver) → At w (fun g => g < base) true fs s B 0 → B < base → base ≤ w.heap.size →
    Own eB w base v bs → bs.length + (encPart (decide (vf ≤ ver)) ver fs s).length ≤ LIM →
    zaF Tryz.prog fn #[.pointer (some ⟨B, 0, none⟩), v] w (App eB w base v (bs ++ encPart (decide (vf ≤ ver)) ver fs s))
section
variable {y0 y1 y2 y3 y4 y5 y6 y7 y8 y9 y10 y11 y12 y13 y14 y15 y16 y17 y18 y19 y20 y21 y22 y23 y24 y25 y26 y27 y28 y29 y30 y31 y32 y33 y34 y35 y36 y37 y38 y39 : TypeId} {q0 q1 q2 q3 q4 q5 q6 q7 q8 q9 q10 q11 q12 q13 q14 q15 q16 q17 q18 q19 q20 q21 q22 q23 q24 q25 q26 q27 q28 q29 q30 q31 q32 q33 q34 q35 q36 q37 q38 q39 : String} {e0 e1 e2 e3 e4 e5 e6 e7 e8 e9 e10 e11 e12 e13 e14 e15 e16 e17 e18 e19 e20 e21 e22 e23 e24 e25 e26 e27 e28 e29 e30 e31 e32 e33 e34 e35 e36 e37 e38 e39 : Array Edge} {r0 r1 r2 r3 r4 r5 : Nat}
variable {r6 r7 r8 r9 r10 r11 r12 r13 : Nat} {us us1 us2 us3 us4 : Array TypeId}
theorem app_keptF {vf : Int} {t5 t6 t7 sF u : Nat} {ok : Int → Prop} {fn : FuncId} {func : Func} {N r sV t0 t1 t2 t3 t4 T ty : Nat} {i0 i1 : Nat} {fr : Int} {fs1 : List Fld} {c : Code}
    (hfn : (Tryz.prog).funcs[fn]? = some func)
    (hbody : func.body = some (.seq (.region r0 #[⟨some r, .assign (.const (.slice none i0 i1)), y0, q0, e0, none⟩] false) (.seq (.region r1 #[⟨some t0, .move (.tmp 0), y1, q1, e1, none⟩, ⟨some t1, .nilCheck (.tmp t0), y2, q2, e2, none⟩, ⟨some t2, .fieldAddr T (.tmp t1) 0, y3, q3, e3, none⟩, ⟨some t3, .load ty (.tmp t2), y4, q4, e4, none⟩, ⟨some sV, .assign (.tmp t3), y5, q5, e5, none⟩] false)
      (.seq (.region r2 #[⟨some t4, .move (.tmp sV), y6, q6, e6, none⟩] false) (.seq (.region r3 #[⟨some t5, .move (.tmp sV), y7, q7, e7, none⟩, ⟨some t6, .binOp .geq u (.tmp t5) (.const (.int .i16 vf)) u, y8, q8, e8, none⟩, ⟨some sF, .assign (.tmp t6), y9, q9, e9, none⟩] false) (.seq (.region r4 #[⟨some t7, .move (.tmp sF), y10, q10, e10, none⟩] false) c))))))
    (hres : func.results = #[.tmp r]) (hN : func.ntmps = N) (hF : (fieldB Tryz.prog T 0 0 1 && scalB Tryz.prog ty && decide (2 ≤ N) && decide ((0 :: 1 :: [r, t0, t1, t2, t3, t4, t5, t6, t7, sV, sF]).Nodup) && [r, t0, t1, t2, t3, t4, t5, t6, t7, sV, sF].all (fun t => decide (t < N))) = true)
    (h : ∀ (ver : Int) (s : S), ok ver → WrT ⟨N, t0, sV, sF, ver, decide (vf ≤ ver), true⟩ (sF + 1) t0 r c (PrS ⟨N, t0, sV, sF, ver, decide (vf ≤ ver), true⟩ 0 0 (verF fr :: fs1) s) (partEnc ⟨N, t0, sV, sF, ver, decide (vf ≤ ver), true⟩ (verF fr :: fs1) s)) :
    AppendsKf fn vf ok (verF fr :: fs1) := by
  simp only [Bool.and_eq_true, decide_eq_true_eq, List.all_eq_true] at hF
  obtain ⟨⟨⟨⟨f1, f2⟩, f3⟩, hnd⟩, hlt⟩ := hF
  simp only [List.nodup_cons, List.mem_cons, List.not_mem_nil, or_false, not_or, List.nodup_nil, and_true, not_false_eq_true, forall_eq_or_imp, forall_eq] at hnd hlt
  intro s ver B w base v bs hver hs0 hat hB hbase hown hlim
  obtain ⟨d, cs, Tb, q1, hblk, q3, q4⟩ := hat.field (i := 0) (f := verF fr) rfl
  rw [hs0] at q1
  cases q1
  have hc0 : cs[0]? = some (.int .i16 ver) := by
    unfold verF RepF at q4
    change (cs.drop 0).take 1 = [.int .i16 ver] at q4
    cases cs with
    | nil => simp at q4
    | cons y ys => simp at q4; simp [q4]
  clear q3 q4
  refine zar hfn hbody hres hN (by simpa using f3) ?_
  intro a hN hD ha
  have h0 : get a 0 = .pointer (some ⟨B, 0, none⟩) := ha 0 _ rfl
  have h1 : get a 1 = v := ha 1 _ rfl
  refine wp_seq_k fun K hK => ?_
  refine zaf ?_
  refine zan ?_
  refine zac (hK _ _ ?_)
  clear hK K
  refine wp_seq_k fun K hK => ?_
  refine zaf ?_
  refine zav ?_
  simp only [zad, zai, zaa, zab, zah, ne_eq, zag, hN, hnd, hlt, not_false_eq_true, h0]
  refine zaV (p := ⟨B, 0, none⟩) (by simp only [zad, zai, zaa, zab, zah, ne_eq, zag, hN, hnd, hlt, not_false_eq_true, h0]) ?_
  refine zaU (b := B) (o := 0) f1 (by simp only [zad, zai, zaa, zab, zah, ne_eq, zag, hN, hnd, hlt, not_false_eq_true, h0]) ?_
  refine zaM (b := B) (o := 0 + 0) f2 (by simp only [zad, zai, zaa, zab, zah, ne_eq, zag, hN, hnd, hlt, not_false_eq_true, h0]) hblk hc0 ?_
  refine zan ?_
  simp only [zad, zai, zaa, zab, zah, ne_eq, zag, hN, hnd, hlt, not_false_eq_true, h0]
  refine zac (hK _ _ ?_)
  clear hK K
  refine wp_seq_k fun K hK => ?_
  refine zaf ?_
  refine zav ?_
  simp only [zad, zai, zaa, zab, zah, ne_eq, zag, hN, hnd, hlt, not_false_eq_true, h0]
  refine zac (hK _ _ ?_)
  clear hK K
  refine wp_seq_k fun K hK => ?_
  refine zaf ?_
  refine zav ?_
  simp only [zad, zai, zaa, zab, zah, ne_eq, zag, hN, hnd, hlt, not_false_eq_true, h0]
  refine wl_geq (by simp only [zad, zai, zaa, zab, zah, ne_eq, zag, hN, hnd, hlt, not_false_eq_true, h0]; rfl) ?_
  simp only [zad, zai, zaa, zab, zah, ne_eq, zag, hN, hnd, hlt, not_false_eq_true, h0, cmp2]
  refine zan ?_
  simp only [zad, zai, zaa, zab, zah, ne_eq, zag, hN, hnd, hlt, not_false_eq_true, h0]
  refine zac (hK _ _ ?_)
  clear hK K
  refine wp_seq_k fun K hK => ?_
  refine zaf ?_
  refine zav ?_
  simp only [zad, zai, zaa, zab, zah, ne_eq, zag, hN, hnd, hlt, not_false_eq_true, h0]
  refine zac (hK _ _ ?_)
  clear hK K
  have he : partEnc ⟨N, t0, sV, sF, ver, decide (vf ≤ ver), true⟩ (verF fr :: fs1) s = encPart (decide (vf ≤ ver)) ver (verF fr :: fs1) s := partEnc_eq _ _ _
  rw [← he] at hlim ⊢
  refine h ver s hver _ w base v bs ⟨by simp only [zag, hN], by simp only [zae, hD], ?_, fun _ => ?_⟩ ?_ hown hbase ⟨B, 0, ?_, ?_, hB⟩ hlim
  · simp only [zad, zai, zaa, zab, zah, ne_eq, zag, hN, hnd, hlt, not_false_eq_true, h0]
  · simp only [zad, zai, zaa, zab, zah, ne_eq, zag, hN, hnd, hlt, not_false_eq_true, h0]
  · simp only [zad, zai, zaa, zab, zah, ne_eq, zag, hN, hnd, hlt, not_false_eq_true, h1]
  · simp only [zad, zai, zaa, zab, zah, ne_eq, zag, hN, hnd, hlt, not_false_eq_true, h0]
  · exact hat
theorem newval_ofF {fn fd : FuncId} {func : Func} {T n : Nat} {dc zc : List Value}
    (hfn : (Tryz.prog).funcs[fn]? = some func)
    (hbody : func.body = some (.seq (.region r0 #[⟨some 0, .alloc T, y0, q0, e0, none⟩] false) (.seq (.region r1 #[⟨some 1, .alloc T, y1, q1, e1, none⟩] false)
      (.seq (.region r2 #[⟨some 2, .call { callee := .value (.func fd), args := #[.tmp 1], argTypes := us }, y2, q2, e2, none⟩] false) (.seq (.region r3 #[⟨some 3, .load T (.tmp 1), y3, q3, e3, none⟩, ⟨none, .store T (.tmp 0) (.tmp 3), y4, q4, e4, none⟩] false) .ret)))))
    (hres : func.results = #[.cell 0 T]) (hNf : func.ntmps = 4) (hz : zeroB Tryz.prog T (zaT (.int .i16 0 :: zc))) (hen : zaZ Tryz.prog fd) (hdef : ∀ (w : World) (B : Nat) (v : Value) (T : TypeId), Blk w B (v :: zc) T → zaF Tryz.prog fd #[.pointer (some ⟨B, 0, none⟩)] w fun _ w' => Blk w' B (v :: dc) T ∧ Chg (fun k => k = B) w w')
    (hT : (aggB Tryz.prog T && sizeB Tryz.prog T n && decide ((Value.int .i16 0 :: dc).length = n) && (Value.int .i16 0 :: dc).all (·.oneCell') && decide ((Value.int .i16 0 :: zc).length = n)) = true) : NewV fn (.int .i16 0 :: dc) := by
  intro w
  simp only [Bool.and_eq_true, decide_eq_true_eq, List.all_eq_true] at hT
  obtain ⟨⟨⟨⟨t1, t2⟩, t3⟩, t4⟩, t5⟩ := hT
  refine callsR_ofC hfn hbody hres t1 hNf (by simp) ?_
  intro a hN hD ha
  refine wp_seq_k fun K hK => ?_; refine zaf ?_
  refine zbf hz fun w1 hc1 hb1 hs1 => ?_
  refine zac ?_; refine hK _ _ ?_; clear hK K
  refine wp_seq_k fun K hK => ?_; refine zaf ?_
  refine zbf hz fun w2 hc2 hb2 hs2 => ?_
  refine zac ?_; refine hK _ _ ?_; clear hK K
  refine wp_seq_k fun K hK => ?_; refine zaf ?_
  refine zaG hen (by simp only [List.map_toArray, List.map_cons, List.map_nil, evb, kb, hN, seval]; exact hdef w2 _ (.int .i16 0) T hb2) ?_
  rintro v w3 ⟨hb3, hc3⟩
  refine zac ?_; refine hK _ _ ?_; clear hK K
  refine wp_seq_k fun K hK => ?_; refine zaf ?_
  refine za9 (b := w1.heap.size) (o := 0) (n := n) t1 t2 (by simp [evb, kb, hN, sdb]) hb3 (by omega) ?_
  have e5 : ((Value.int .i16 0 :: dc).drop 0).take n = .int .i16 0 :: dc := by rw [List.drop_zero, ← t3, List.take_length]
  rw [e5]
  have hb13 : Blk w3 w.heap.size (.int .i16 0 :: zc) T := (hb1.chg hc2 fun h => h).chg hc3 (by omega)
  refine zbe (b := w.heap.size) (n := n) (l' := .int .i16 0 :: dc) t2 (by simp [evb, kb, hN, sdb]) (by simp only [evb, kb, hN, seval]; rfl) hb13 t3 t4 t5 fun w4 hb4 hc4 => ?_
  refine zac ?_; refine hK _ _ ?_; clear hK K
  refine wp_ret ⟨by simp [zae, hD], w.heap.size, _, _, by simp only [evb, kb, hN, seval], hb4, by rw [t3]; exact t2, rfl, ?_⟩
  exact ((hc1.trans hc2 fun _ _ h => h).trans hc3 fun k hk h => by omega).trans hc4 fun k hk h => by omega
def AgKf (fn : FuncId) (vf : Int) (ok : Int → Prop) (fs : List Fld) : Prop := ∀ (ver : Int), ok ver → ∀ (w : World) (G : Nat → Prop) (oa : Option Addr) (bs : Bs) (cap : Nat), (∀ y, rS 2 bs = some y → y.1 = ver) → zaw w G oa bs → bs.length ≤ RLIM → ErrW w →
  (∀ s r, zba (decide (vf ≤ ver)) ver fs bs = some (s, r) → (encPart (decide (vf ≤ ver)) ver fs s).length ≤ LIM) → zaF Tryz.prog fn #[.slice oa bs.length cap] w (AgP (decide (vf ≤ ver)) ver fs bs w)
theorem again_keptF {vf : Int} {ok : Int → Prop} {fn fp fr frr fa : FuncId} {func : Func} {T n : Nat} {f0 : Int} {fs1 : List Fld} {dc zc : List Value} (hokr : ∀ ver, ok ver → f0 ≤ ver) (htag : anyTag fs1 = false)
    (hfn : (Tryz.prog).funcs[fn]? = some func)
    (hbody : func.body = some (.seq (.region r0 #[⟨some 2, .assign (.const (.slice none 0 0)), y0, q0, e0, none⟩, ⟨some 3, .assign (.const (.bool false)), y1, q1, e1, none⟩] false)
      (.seq (.region r1 #[⟨some 5, .call { callee := .value (.func fp), args := #[], argTypes := us }, y2, q2, e2, none⟩, ⟨some 4, .alloc T, y3, q3, e3, none⟩, ⟨none, .store T (.tmp 4) (.tmp 5), y4, q4, e4, none⟩] false)
      (.seq (.seq (.region r3 #[⟨some 6, .move (.tmp 0), y5, q5, e5, none⟩, ⟨some 7, .call { callee := .builtin .append, args := #[.const (.slice none 0 0), .tmp 6], argTypes := #[22, 22] }, y6, q6, e6, none⟩, ⟨some 8, .call { callee := .value (.func fr), args := #[.tmp 4, .tmp 7], argTypes := us3 }, y7, q7, e7, none⟩, ⟨some 9, .binOp .neq 52 (.tmp 8) (.const .nilIface) 52, y8, q8, e8, none⟩] false)
        (.cond (.tmp 9) (.seq (.region r4 #[⟨some 2, .assign (.const (.slice none 0 0)), y9, q9, e9, none⟩, ⟨some 3, .assign (.const (.bool false)), y10, q10, e10, none⟩] false) .ret) .skip))
      (.seq (.region r5 #[⟨some 10, .call { callee := .value (.func fa), args := #[.tmp 4, .const (.slice none 0 0)], argTypes := us4 }, y11, q11, e11, none⟩, ⟨some 2, .assign (.tmp 10), y12, q12, e12, none⟩, ⟨some 3, .assign (.const (.bool true)), y13, q13, e13, none⟩] false) .ret)))))
    (hres : func.results = #[.tmp 2, .tmp 3]) (hNf : func.ntmps = 11) (ep : zaZ Tryz.prog fp) (er : zaZ Tryz.prog fr) (ea : zaZ Tryz.prog fa)
    (hz : zeroB Tryz.prog T (zaT (.int .i16 0 :: zc))) (hT : (aggB Tryz.prog T && sizeB Tryz.prog T n && decide ((Value.int .i16 0 :: dc).length = n) && (Value.int .i16 0 :: dc).all (·.oneCell') && decide ((Value.int .i16 0 :: zc).length = n)) = true)
    (hp : NewV fp (.int .i16 0 :: dc)) (hf : ReadsFrom fr frr) (hr : ReadsKf frr vf ok (verF f0 :: fs1) dc) (ha : AppendsKf fa vf ok (verF f0 :: fs1)) : AgKf fn vf ok (verF f0 :: fs1) := by
  intro ver hver w G oa bs cap hvr hsrc hlim herr hout
  simp only [Bool.and_eq_true, decide_eq_true_eq, List.all_eq_true] at hT
  obtain ⟨⟨⟨⟨t1, t2⟩, t3⟩, t4⟩, t5⟩ := hT
  refine callsR_of2 hfn hbody hres hNf (by simp) ?_
  intro a hN hD hargs
  have g0 : get a 0 = .slice oa bs.length cap := hargs 0 _ rfl
  refine wp_seq_k fun K hK => ?_; refine zaf ?_; (repeat ((with_reducible refine zaK ?_ ?_ ?_); (· simp [evb, pvb, rnb, kb, hN, dyb, sdb] <;> omega); (· kernel_rfl); try simp only [evb, pvb, rnb, kb, hN, seval])); refine zac ?_; refine hK _ _ ?_; clear hK K
  refine wp_seq_k fun K hK => ?_; refine zaf ?_
  refine zaG ep (by simp only [List.map_toArray, List.map_nil]; exact hp w) ?_
  rintro v w1 ⟨rfl, hc1⟩
  have hs01 := hc1.size
  refine zbf hz fun w1' hc1' hb1' hs1' => ?_
  refine zbe (b := w1.heap.size) (n := n) (l' := .int .i16 0 :: dc) t2 (by simp [evb, kb, hN, sdb]) (by simp only [evb, kb, hN, seval]) hb1' t3 t4 t5 fun w2 hb2 hc2 => ?_
  refine zac ?_; refine hK _ _ ?_; clear hK K
  have hc12 : Chg (fun _ => False) w w2 := (hc1.trans hc1' fun _ _ h => h).trans hc2 fun n hn h => by omega
  have hE2 := herr.chg hc12 (fun h => h)
  have hgE := gE_lt herr
  have hs2 := hb2.lt
  refine wp_seq_k fun K hK => ?_; refine wp_seq_k fun K0 hK0 => ?_; refine zaf ?_; (repeat ((with_reducible refine zaK ?_ ?_ ?_); (· simp [evb, pvb, rnb, kb, hN, g0, dyb, sdb] <;> omega); (· kernel_rfl); try simp only [evb, pvb, rnb, kb, hN, seval, g0]))
  refine zbl (t := 22) (e := 5) (base := w2.heap.size) (v := .slice none 0 0) (bs := []) (bs' := bs) (oa := oa) (c := cap) bT (by simp only [evb, kb, hN, seval]) (by simp only [evb, kb, hN, seval, g0]) (Own.nil _ _ _) (hsrc.chg hc12 fun _ _ _ h => h) (by unfold LIM; unfold RLIM at hlim; simp only [List.length_nil]; omega) (Nat.le_refl _) ?_
  intro v3 w3 happ
  have hc3 : Chg (fun _ => False) w2 w3 := happ.chg.mono fun n hn hk => by simp [Value.ownBlock] at hk
  obtain ⟨oa3, cap3, rfl, hcap3, hbs3⟩ := happ.own.bytes
  have hE3 := hE2.chg hc3 (fun h => h)
  have hb3 := hb2.chg hc3 (fun h => h)
  have hc13 : Chg (fun _ => False) w w3 := hc12.trans hc3 fun _ _ h => h
  have hs3 := hc3.size
  have hown := happ.own
  rw [List.nil_append] at hcap3 hbs3 hown ⊢
  have hne : ∀ g, Value.ownBlock (.slice oa3 bs.length cap3) = some g → g ≠ w1.heap.size := by
    intro g hg
    rcases hown.2 with ⟨h, _⟩ | ⟨g', c', cur, h, hbg, _⟩
    · rw [h] at hg; simp [Value.ownBlock] at hg
    · rw [h] at hg; simp [Value.ownBlock] at hg; omega
  refine zaG (R := ReadKPf w3 vf ver (verF f0 :: fs1) w1.heap.size bs) er (by
    simp only [List.map_toArray, List.map_cons, List.map_nil, evb, kb, hN, seval]
    exact hf (hr ver w3 w1.heap.size T oa3 bs cap3 hver hvr hb3 (hbs3.mono fun g hg _ => hne g hg) hcap3 hlim (by omega) hE3)) ?_
  rintro v4 w4 ⟨hc4, hq⟩
  have hc14 : Chg (fun _ => False) w w4 := hc13.trans hc4 fun n hn h => by omega
  rcases hq with ⟨hd, t, x, rfl⟩ | ⟨s, r, hd, rfl, hat⟩
  · refine wl_neqNil1 (ti := t) (v := x) (by kernel_rfl) (by simp only [evb, kb, hN, seval]) ?_
    refine zac ?_
    refine hK0 _ _ ?_; try clear hK0 K0
    refine wp_cond_true (by simp [evb, kb, hN, sdb]) ?_
    refine wp_seq_k fun K hK => ?_; refine zaf ?_; (repeat ((with_reducible refine zaK ?_ ?_ ?_); (· simp [evb, pvb, rnb, kb, hN, dyb, sdb] <;> omega); (· kernel_rfl); try simp only [evb, pvb, rnb, kb, hN, seval])); refine zac ?_; refine hK _ _ ?_; clear hK K; refine wp_ret ⟨by simp [zae, hD], ?_⟩; simp only [evb, kb, hN, seval]
    exact ⟨hc14, .inl ⟨hd, by simp [evb, kb, hN, seval]⟩⟩
  · refine wl_neqNil0 (by kernel_rfl) (by simp only [evb, kb, hN, seval]) ?_
    refine zac ?_
    refine hK0 _ _ ?_; try clear hK0 K0
    refine wp_cond_false (by simp [evb, kb, hN, sdb]) ?_
    refine wp_skip ?_
    refine hK _ _ ?_
    clear hK K
    have hB4 : w1.heap.size < w4.heap.size := by have := hc4.size; omega
    refine wp_seq_k fun K hK => ?_; refine zaf ?_
    refine zaG (R := App eB w4 w4.heap.size (.slice none 0 0) ([] ++ encPart (decide (vf ≤ ver)) ver (verF f0 :: fs1) s)) ea (by
      simp only [List.map_toArray, List.map_cons, List.map_nil, evb, kb, hN, seval]
      exact ha s ver w1.heap.size w4 w4.heap.size (.slice none 0 0) [] hver (kf_ver htag (hokr ver hver) hd hvr) (hat.stay (Stay.sub fun k hk _ => hk) rfl) hB4 (Nat.le_refl _) (Own.nil _ _ _) (by have := hout s r hd; simpa using this)) ?_
    intro v5 w5 happ5
    (repeat ((with_reducible refine zaK ?_ ?_ ?_); (· simp [evb, pvb, rnb, kb, hN, dyb, sdb] <;> omega); (· kernel_rfl); try simp only [evb, pvb, rnb, kb, hN, seval])); refine zac ?_; refine hK _ _ ?_; clear hK K; refine wp_ret ⟨by simp [zae, hD], ?_⟩; simp only [evb, kb, hN, seval]
    have hc5 : Chg (fun _ => False) w4 w5 := happ5.chg.mono fun n hn hk => by simp [Value.ownBlock] at hk
    refine ⟨hc14.trans hc5 fun _ _ h => h, .inr ⟨s, r, v5, hd, by simp [evb, kb, hN, seval], ?_⟩⟩
    have := happ5.own
    rw [List.nil_append] at this
    exact this.mono hc14.size
end
end Go.Proofs.YtidlpocllgleiaaGreatDoor
namespace Go.Proofs.YtidlpocllgleiaaGreatDoor
set_option linter.all false
open Go.RowKit
set_option maxRecDepth 10000
set_option maxHeartbeats 2000000
theorem ws_convF {P : Program} {ops : Array Oper} {S : World → Prop} {Q : Act → World → Prop} {r : List (Bool × Nat)} {a : Act} {w : World} {d : Option Nat} {i : Nat} {ty : TypeId} {pos : String} {af : Array Edge} {s t : TypeId} {x : Operand} {j : IntKind} {n : Int} (hi : ops[i]? = some ⟨d, .convert s t x, ty, pos, af, none⟩) (hc : (someB P s && isIntT P t) = true) (hx : a.eval x = .int j n)
    (h : zaJ P ops S Q r (a.put d (cvt (kindOf P t) (.int j n))) w) : zaJ P ops S Q ((true, i) :: r) a w :=
  ws_float _ hi (fun w' _ => by
    have := run_pure (P := P) (w := w') (ρ := a.eval) (d := d) (o := .convert s t x) (ty := ty) (pos := pos) (af := af) (fun _ => rfl) (by simp [dyn, hx, isI]) hc
    simpa [pv, hx] using this) h
theorem ws_remF {P : Program} {ops : Array Oper} {S : World → Prop} {Q : Act → World → Prop} {r : List (Bool × Nat)} {a : Act} {w : World} {d : Option Nat} {i : Nat} {ty : TypeId} {pos : String} {af : Array Edge} {t u : TypeId} {x y : Operand} {j : IntKind} {m n : Int} (hi : ops[i]? = some ⟨d, .binOp .rem t x y u, ty, pos, af, none⟩) (hx : a.eval x = .int j m) (hy : a.eval y = .int j n) (hn : n ≠ 0)
    (h : zaJ P ops S Q r (a.put d (.int j (m.tmod n))) w) : zaJ P ops S Q ((true, i) :: r) a w :=
  ws_float _ hi (fun w' _ => by simp [execOp, eqGuard, binOp, hx, hy, Op.intDiv, hn]) h
def kBf (fx : Bool) (ver : Int) (fs : List Fld) (v : Tr) : Bs := be 2 ver ++ sPart fx ver fs v
theorem Kept_cf (fs : List Fld) (vf ver : Int) (v : Tr) (hok : okL fs = true) (hlen : fs.length ≤ 1073741824) (hvo : TROK v) (hlim : (sPart (decide (0 ≤ vf) && decide (vf ≤ ver)) ver fs v).length ≤ SLIM)
    {w : World} {G G' : Nat → Prop} {sv : Value} {ts : List Value} (hfs : SchS w G fs sv) (hv : TrC w G' v ts) :
    zaF Tryz.prog 5 #[zaT [sv, .int .i64 vf], .int .i64 ver, zaT ts] w fun r w' => Octs w r (kBf (decide (0 ≤ vf) && decide (vf ≤ ver)) ver fs v) w' := by
  refine zar Tryz.func5 rfl rfl Tryz.ntmps5 (by simp) ?_
  intro a hN hD ha
  have h0 : get a 0 = zaT [sv, .int .i64 vf] := ha 0 _ rfl
  have h1 : get a 1 = .int .i64 ver := ha 1 _ rfl
  have h2 : get a 2 = zaT ts := ha 2 _ rfl
  have hl5 := hv.len
  refine wp_seq_k fun K hK => ?_; refine zaf ?_
  refine wl_boxA (l := [sv, .int .i64 vf]) (by simp [evb, kb, hN, h0, sdb]) fun w1 hc hb hs => ?_
  refine wl_boxA (l := ts) (by simp [evb, kb, hN, h2, sdb]) fun w2 hc2 hb2 hs2 => ?_
  replace hb := hb.chg hc2 (fun h => h)
  replace hc := hc.trans hc2 (fun _ _ h => h)
  rw [hs] at hb2 ⊢
  (repeat ((with_reducible refine zaK ?_ ?_ ?_); (· simp [evb, pvb, rnb, kb, hN, dyb, sdb] <;> omega); (· kernel_rfl); try simp only [evb, pvb, rnb, kb, hN, seval]))
  refine zac ?_; refine hK _ _ ?_; clear hK K
  have e5 : (ts.drop 0).take 5 = ts := by rw [List.drop_zero, List.take_of_length_le (by omega)]
  have e2 : (([sv, .int .i64 vf] : List Value).drop 0).take 2 = [sv, .int .i64 vf] := rfl
  refine wp_seq_k fun K hK => ?_
  refine wp_sched (fun w' => Chg (fun _ => False) w2 w') [(true, 0), (true, 2), (true, 3), (true, 4), (false, 1), (false, 5), (false, 6), (true, 7)] zaO (by kernel_rfl) (by kernel_rfl) (Chg.drew _ _) ?_
  refine zbi rfl ?_
  simp only [evb, kb, hN, seval, h1]
  refine ws_loadAgg (b := w.heap.size) (o := 0) (n := 2) (by kernel_rfl) (by kernel_rfl) rfl (by simp [evb, kb, hN, sdb]) (fun w' c => hb.chg c (fun h => h)) (by simp) ?_
  rw [e2]
  refine zbi rfl ?_
  simp only [evb, kb, hN, seval, h1]
  refine ws_loadAgg (b := w.heap.size + 1) (o := 0) (n := 5) (by kernel_rfl) (by kernel_rfl) rfl (by simp [evb, kb, hN, sdb]) (fun w' c => hb2.chg c (fun h => h)) (by omega) ?_
  rw [e5]
  refine ws_call (fun args w => Tryz.call9 args w) rfl (by simp only [List.map_toArray, List.map_cons, List.map_nil, evb, kb, hN, seval, h1]; exact Fixed_c ver 2 (by omega)) ?_
  rintro v3 w3 ⟨ho3, hc3⟩
  have hk3 : Chg (fun _ => False) w2 w3 := (Chg.drew _ _).trans hc3 fun _ _ h => h
  refine ⟨hk3, ?_⟩
  have hcw3 : Chg (fun _ => False) w w3 := hc.trans hk3 fun _ _ h => h
  refine ws_call (fun args w => Tryz.call10 args w) rfl (by simp only [List.map_toArray, List.map_cons, List.map_nil, evb, kb, hN, seval, h1]; exact Write_c fs vf ver v hok hlen hvo (by simpa using hlim) (hfs.stay (Stay.none hcw3)) (hv.stay (Stay.none hcw3))) ?_
  rintro v4 w4 ⟨ho4, hc4⟩
  have hk4 : Chg (fun _ => False) w2 w4 := hk3.trans hc4 fun _ _ h => h
  refine ⟨hk4, ?_⟩
  obtain ⟨oa4, cap4, rfl, _, hb4⟩ := ho4.bytes
  have hb43 : w.heap.size ≤ w2.drew.heap.size := hc.size
  have ho3' : Own eB w4 w.heap.size v3 (be 2 ver) := (ho3.chg hc4 fun _ _ h => h).mono hb43
  refine ws_step rfl fun K2 hK2 => ?_
  refine zbl (t := 22) (e := 5) (base := w.heap.size) (v := v3) (bs := be 2 ver) (bs' := sPart (decide (0 ≤ vf) && decide (vf ≤ ver)) ver fs v) (oa := oa4) (c := cap4) bT (by simp only [evb, kb, hN, seval]) (by simp only [evb, kb, hN, seval]) ho3' hb4 (by rw [be_length]; unfold LIM; unfold SLIM at hlim; omega) (by have := hc.size; have := hk4.size; omega) ?_
  intro v5 w5 happ
  have hk5 : Chg (fun _ => False) w w5 := (hc.trans hk4 fun _ _ h => h).trans happ.chg fun k hk e => by have := (ho3'.lt k e).1; omega
  have hk25 : Chg (fun _ => False) w2 w5 := hk4.trans happ.chg fun k hk e => by
    have h3 := (ho3.chg hc4 fun _ _ h => h).lt k e
    have : w2.drew.heap.size = w2.heap.size := rfl
    omega
  refine zac (hK2 _ _ hk25 ?_)
  refine ws_assign rfl ?_
  simp only [evb, kb, hN, seval]
  refine ws_nil ?_
  refine hK _ _ ?_
  refine wp_ret ⟨by simp [zae, hD], ?_⟩; simp only [evb, kb, hN, seval]
  exact ⟨happ.own, hk5⟩
theorem kf_tree {flx : Int → Bool} {k : Nat} {fs : List Fld} {v : Tr} {ver : Int} (hsch : SchOK flx k fs) (ht : anyTag fs = false) (hv0 : 0 ≤ ver) (hv1 : ver ≤ k) (hk : k < 256) (hr0 : kL fs + 6 ≤ 1000) (hkv : keyV v) (hb : za1 v ≤ 1048576) :
    (kBf (flx ver) ver fs v).length ≤ RLIM ∧ (∀ x, rS 2 (kBf (flx ver) ver fs v ++ x) = some (ver, sPart (flx ver) ver fs v ++ x)) ∧ ∃ s, zba (flx ver) ver (verF 0 :: fs) (kBf (flx ver) ver fs v) = some (s, []) ∧ encPart (flx ver) ver (verF 0 :: fs) s = kBf (flx ver) ver fs v := by
  have hbound : (sPart (flx ver) ver fs v).length ≤ 1048576000 := by
    have h1 := sPart_le (flex := flx ver) (ver := ver) (v := v) hsch.plain
    have h2 : (kL fs + 6) * za1 v ≤ 1000 * 1048576 := Nat.mul_le_mul hr0 hb
    omega
  obtain ⟨s, hdec, henc⟩ := tree_law (hsch.good ver hv0 hv1) hsch.plain hkv (by omega : (sPart (flx ver) ver fs v).length ≤ 2147483648)
  have hr : ∀ x, rS 2 (kBf (flx ver) ver fs v ++ x) = some (ver, sPart (flx ver) ver fs v ++ x) := fun x => by
    unfold kBf
    rw [List.append_assoc]
    exact rS_be 2 ver _ (by omega) (by omega)
  refine ⟨by unfold kBf RLIM; rw [List.length_append, be_length]; omega, hr, ⟨.int ver :: s.ds, s.tags⟩, ?_, ?_⟩
  · have h0 := hr []
    rw [List.append_nil, List.append_nil] at h0
    rw [kf_dec ht hv0, h0, Option.bind_some, hdec]
    rfl
  · rw [kf_enc hv0]
    unfold kBf
    rw [← henc]
section
variable {y0 y1 y2 y3 y4 y5 y6 y7 y8 y9 y10 y11 y12 y13 y14 y15 y16 y17 y18 y19 y20 y21 y22 y23 y24 y25 y26 y27 y28 y29 y30 y31 y32 y33 y34 y35 y36 y37 y38 y39 : TypeId} {q0 q1 q2 q3 q4 q5 q6 q7 q8 q9 q10 q11 q12 q13 q14 q15 q16 q17 q18 q19 q20 q21 q22 q23 q24 q25 q26 q27 q28 q29 q30 q31 q32 q33 q34 q35 q36 q37 q38 q39 : String} {e0 e1 e2 e3 e4 e5 e6 e7 e8 e9 e10 e11 e12 e13 e14 e15 e16 e17 e18 e19 e20 e21 e22 e23 e24 e25 e26 e27 e28 e29 e30 e31 e32 e33 e34 e35 e36 e37 e38 e39 : Array Edge} {r0 r1 r2 r3 r4 r5 : Nat}
variable {y40 y41 y42 y43 y44 y45 y46 y47 y48 y49 y50 y51 y52 y53 y54 y55 y56 y57 y58 y59 : TypeId} {q40 q41 q42 q43 q44 q45 q46 q47 q48 q49 q50 q51 q52 q53 q54 q55 q56 q57 q58 q59 : String} {e40 e41 e42 e43 e44 e45 e46 e47 e48 e49 e50 e51 e52 e53 e54 e55 e56 e57 e58 e59 : Array Edge}
variable {us us1 us2 us3 us4 us5 us6 us7 us8 : Array TypeId} {r6 r7 r8 r9 r10 r11 r12 : Nat} {z1 z2 z3 z4 z5 : TypeId} {p1 p2 p3 p4 p5 : String} {j1 j2 j3 j4 j5 : Array Edge}
theorem lawCutKf_of {fn fL fA : FuncId} {func : Func} {vf : Int} {k : Nat} {K1 : Int} {fs : List Fld} {L6 : List Oper}
    (hfn : (Tryz.prog).funcs[fn]? = some func)
    (hbody : func.body = some (.seq (.region r0 #[⟨some 4, .box 26 (.tmp 1), y0, q0, e0, none⟩, ⟨some 6, .assign (.const (.bool false)), y1, q1, e1, none⟩] false)
     (.seq (.seq (.region r1 #[⟨some 12, .load 26 (.tmp 4), y2, q2, e2, none⟩, ⟨some 13, .call { callee := .value (.func 4), args := #[.tmp 12], argTypes := us }, y3, q3, e3, none⟩, ⟨some 14, .unOp .not 4 (.tmp 13), y4, q4, e4, none⟩] false)
        (.cond (.tmp 14) (.seq (.region r2 #[⟨some 6, .assign (.const (.bool true)), y5, q5, e5, none⟩] false) .ret) .skip))
      (.seq (.region r6 L6.toArray true)
      (.seq (.region r7 #[⟨some 22, .move (.tmp 7), y6, q6, e6, none⟩, ⟨some 23, .call { callee := .value (.func fA), args := #[.tmp 22], argTypes := us6 }, y7, q7, e7, none⟩,
          ⟨some 21, .move (.tmp 23), y8, q8, e8, none⟩, ⟨some 24, .extract (.tmp 21) 0, y9, q9, e9, none⟩, ⟨some 25, .extract (.tmp 21) 1, y10, q10, e10, none⟩, ⟨some 8, .assign (.tmp 24), y11, q11, e11, none⟩, ⟨some 9, .assign (.tmp 25), y12, q12, e12, none⟩] false)
      (.seq (.region r8 #[⟨some 27, .move (.tmp 7), y13, q13, e13, none⟩, ⟨some 28, .move (.tmp 2), y14, q14, e14, none⟩, ⟨some 29, .convert 27 3 (.tmp 28), y15, q15, e15, none⟩, ⟨some 30, .move (.tmp 7), y16, q16, e16, none⟩, ⟨some 31, .call { callee := .builtin .len, args := #[.tmp 30], argTypes := #[22] }, y17, q17, e17, none⟩, ⟨some 32, .binOp .rem 3 (.tmp 29) (.tmp 31) 3, y18, q18, e18, none⟩,
          ⟨some 33, .slice 22 (.tmp 27) none (some (.tmp 32)) none, y19, q19, e19, none⟩, ⟨some 34, .call { callee := .value (.func fA), args := #[.tmp 33], argTypes := us7 }, y20, q20, e20, none⟩,
          ⟨some 26, .move (.tmp 34), y21, q21, e21, none⟩, ⟨some 35, .extract (.tmp 26) 0, y22, q22, e22, none⟩, ⟨some 36, .extract (.tmp 26) 1, y23, q23, e23, none⟩, ⟨some 10, .assign (.tmp 35), y24, q24, e24, none⟩, ⟨some 11, .assign (.tmp 36), y25, q25, e25, none⟩] false)
      (.seq (.region r9 #[⟨some 37, .move (.tmp 9), y26, q26, e26, none⟩, ⟨some 38, .move (.tmp 37), y27, q27, e27, none⟩, ⟨some 39, .move (.tmp 11), z1, p1, j1, some (1, true)⟩, ⟨some 40, .unOp .not 4 (.tmp 39), z2, p2, j2, some (1, true)⟩,
          ⟨some 41, .pick (.tmp 38) (.tmp 40) (.const (.bool false)), y28, q28, e28, none⟩, ⟨some 6, .assign (.tmp 41), y29, q29, e29, none⟩] false) .ret)))))))
    (hL6 : L6 = [⟨some 15, .call { callee := .value (.func fL), args := #[], argTypes := us2 }, y30, q30, e30, none⟩, ⟨some 16, .move (.tmp 0), y31, q31, e31, none⟩, ⟨some 17, .convert 5 3 (.tmp 16), y32, q32, e32, none⟩, ⟨some 18, .binOp .rem 3 (.tmp 17) (.const (.int .i64 K1)) 3, y33, q33, e33, none⟩, ⟨some 19, .load 26 (.tmp 4), y34, q34, e34, none⟩,
          ⟨some 20, .call { callee := .value (.func 5), args := #[.tmp 15, .tmp 18, .tmp 19], argTypes := us4 }, y35, q35, e35, none⟩, ⟨some 7, .assign (.tmp 20), y36, q36, e36, none⟩])
    (hS6 : (decide (7 ≤ L6.length) && schedB .any L6.toArray [(true, 1), (true, 2), (true, 3), (true, 4), (false, 0), (false, 5), (true, 6)] (Array.replicate L6.length false)) = true)
    (hres : func.results = #[.tmp 6]) (hNf : func.ntmps = 42) (eL : zaZ Tryz.prog fL) (eA : zaZ Tryz.prog fA)
    (hL : LaysM fL fs vf) (hA : AgKf fA vf (fun ver => 0 ≤ ver) (verF 0 :: fs)) (hvf : 0 ≤ vf) (ht : anyTag fs = false) (hk : k < 256) (hK1 : K1 = (k : Int) + 1) (hsch : SchOK (fun ver => decide (vf ≤ ver)) k fs) (hr0 : kL fs + 6 ≤ 1000)
    {n at_ : Int} (hn : 0 ≤ n) (hn2 : n < 256) {w : World} {G : Nat → Prop} {v : Tr} {ts : List Value} (hv : TrC w G v ts) (hkv : keyV v) (hb : za1 v ≤ 1048576) (ha0 : 0 ≤ at_) (ha1 : at_ < 65536) (herr : ErrW w) :
    zaF Tryz.prog fn #[.int .u8 n, zaT ts, .int .u16 at_] w fun v w' => v = .bool true ∧ Chg (fun _ => False) w w' := by
  subst hL6 hK1
  refine zar hfn hbody hres hNf (by simp) ?_
  intro a hN hD ha
  have g0 : get a 0 = .int .u8 n := ha 0 _ rfl
  have g1 : get a 1 = zaT ts := ha 1 _ rfl
  have g2 : get a 2 = .int .u16 at_ := ha 2 _ rfl
  obtain ⟨ver, hver⟩ : ∃ ver, ver = n % ((k : Int) + 1) := ⟨_, rfl⟩
  have hv0 : 0 ≤ ver := by rw [hver]; exact Int.emod_nonneg _ (by omega)
  have hv1 : ver ≤ k := by have := Int.emod_lt_of_pos n (show (0 : Int) < (k : Int) + 1 by omega); omega
  have hlen5 := hv.len
  have hone := hv.one
  have hlv := trLen_bulk v
  obtain ⟨hkl, hkr, s, hdec, henc⟩ := kf_tree hsch ht hv0 hv1 hk hr0 hkv hb
  have hsl : (sPart (decide (vf ≤ ver)) ver fs v).length ≤ SLIM := by
    have : (kBf (decide (vf ≤ ver)) ver fs v).length = 2 + (sPart (decide (vf ≤ ver)) ver fs v).length := by unfold kBf; rw [List.length_append, be_length]
    unfold RLIM at hkl; unfold SLIM; omega
  have hfx : (decide (0 ≤ vf) && decide (vf ≤ ver)) = decide (vf ≤ ver) := by rw [decide_eq_true hvf, Bool.true_and]
  refine wp_seq_k fun K hK => ?_; refine zaf ?_
  refine wl_boxA (l := ts) (by simp [evb, kb, hN, g1, sdb]) fun w1 hc1 hb1 hs1 => ?_
  (repeat ((with_reducible refine zaK ?_ ?_ ?_); (· simp [evb, pvb, rnb, kb, hN, dyb, sdb] <;> omega); (· kernel_rfl); try simp only [evb, pvb, rnb, kb, hN, seval])); refine zac ?_; refine hK _ _ ?_; clear hK K
  refine wp_seq_k fun K hK => ?_; refine wp_seq_k fun K0 hK0 => ?_; refine zaf ?_
  refine za9 (b := w.heap.size) (o := 0) (n := 5) (by kernel_rfl) (by kernel_rfl) (by simp [evb, kb, hN, sdb]) hb1 (by omega) ?_
  have e5 : (ts.drop 0).take 5 = ts := by rw [List.drop_zero, ← hlen5, List.take_length]
  rw [e5]
  refine zaG (fun args w => Tryz.call4 args w) (by simp only [List.map_toArray, List.map_cons, List.map_nil, evb, kb, hN, seval]; exact fits2_c v (by omega) (hv.stay (Stay.none hc1))) ?_
  rintro _ w2 ⟨⟨bb, rfl⟩, hc2⟩
  have hcw2 : Chg (fun _ => False) w w2 := hc1.trans hc2 fun _ _ h => h
  (repeat ((with_reducible refine zaK ?_ ?_ ?_); (· simp [evb, pvb, rnb, kb, hN, dyb, sdb] <;> omega); (· kernel_rfl); try simp only [evb, pvb, rnb, kb, hN, seval]))
  refine zac ?_
  refine hK0 _ _ ?_; try clear hK0 K0
  cases bb
  · refine wp_cond_true (by simp [evb, kb, hN, sdb]) ?_
    refine wp_seq_k fun K hK => ?_; refine zaf ?_; (repeat ((with_reducible refine zaK ?_ ?_ ?_); (· simp [evb, pvb, rnb, kb, hN, dyb, sdb] <;> omega); (· kernel_rfl); try simp only [evb, pvb, rnb, kb, hN, seval])); refine zac ?_; refine hK _ _ ?_; clear hK K; refine wp_ret ⟨by simp [zae, hD], ?_⟩; simp only [evb, kb, hN, seval]
    exact ⟨by simp [evb, kb, hN, seval], hcw2⟩
  refine wp_cond_false (by simp [evb, kb, hN, sdb]) ?_
  refine wp_skip ?_
  refine hK _ _ ?_
  clear hK K
  have hb2 := hb1.chg hc2 (fun h => h)
  refine wp_seq_k fun K hK => ?_
  refine wp_sched (fun w' => Chg (fun _ => False) w2 w') [(true, 1), (true, 2), (true, 3), (true, 4), (false, 0), (false, 5), (true, 6)] zaO (by kernel_rfl) hS6 (Chg.drew _ _) ?_
  refine zbi rfl ?_
  simp only [evb, kb, hN, seval, g0]
  refine ws_convF (j := .u8) (n := n) rfl (by kernel_rfl) (by simp only [evb, kb, hN, seval]) ?_
  have e3 : cvt (kindOf Tryz.prog 3) (.int .u8 n) = .int .i64 n := by
    have : kindOf Tryz.prog 3 = .i64 := by kernel_rfl
    rw [this]
    show Value.int .i64 (IntKind.i64.wrap n) = _
    rw [zbk n (by omega)]
  rw [e3]
  refine ws_remF (j := .i64) (m := n) (n := (k : Int) + 1) rfl (by simp only [evb, kb, hN, seval]) (by simp only [evb, kb, hN, seval]) (by omega) ?_
  rw [Int.tmod_eq_emod_of_nonneg hn, ← hver]
  refine ws_loadAgg (b := w.heap.size) (o := 0) (n := 5) (by kernel_rfl) (by kernel_rfl) rfl (by simp [evb, kb, hN, sdb]) (fun w' c => hb2.chg c (fun h => h)) (by omega) ?_
  rw [e5]
  refine ws_call eL rfl (by simp only [List.map_toArray, List.map_cons, List.map_nil, evb, kb, hN, seval]; exact hL _) ?_
  rintro _ w4 ⟨sv, rfl, hsv, hc4⟩
  have hk4 : Chg (fun _ => False) w2 w4 := (Chg.drew _ _).trans hc4 fun _ _ h => h
  refine ⟨hk4, ?_⟩
  have hcw4 : Chg (fun _ => False) w w4 := hcw2.trans hk4 fun _ _ h => h
  refine ws_call (fun args w => Tryz.call5 args w) rfl (by simp only [List.map_toArray, List.map_cons, List.map_nil, evb, kb, hN, seval]; exact Kept_cf fs vf ver v hsch.ok hsch.len (trok_bulk (by unfold LIM; omega)) (by rw [hfx]; exact hsl) hsv (hv.stay (Stay.none hcw4))) ?_
  rw [hfx]
  rintro v5 w5 ho5
  have hk5 := hk4.trans ho5.2 fun _ _ h => h
  refine ⟨hk5, ?_⟩
  refine ws_assign rfl ?_
  simp only [evb, kb, hN, seval]
  refine ws_nil ?_
  refine hK _ _ ?_
  clear hK K
  have hcw5 : Chg (fun _ => False) w w5 := hcw2.trans hk5 fun _ _ h => h
  have hE5 := herr.chg hcw5 (fun h => h)
  obtain ⟨oa5, cap5, rfl, hcap5, hb5⟩ := ho5.1.bytes
  have hyv : ∀ y, rS 2 (kBf (decide (vf ≤ ver)) ver fs v) = some y → y.1 = ver := fun y hy => by
    have := hkr []
    rw [List.append_nil] at this
    rw [this] at hy
    cases hy; rfl
  have hout : ∀ s' r', zba (decide (vf ≤ ver)) ver (verF 0 :: fs) (kBf (decide (vf ≤ ver)) ver fs v) = some (s', r') → (encPart (decide (vf ≤ ver)) ver (verF 0 :: fs) s').length ≤ LIM := fun s' r' h => by
    rw [hdec] at h
    simp only [Option.some.injEq, Prod.mk.injEq] at h
    obtain ⟨rfl, _⟩ := h
    rw [henc]; unfold RLIM at hkl; unfold LIM; omega
  refine wp_seq_k fun K hK => ?_; refine zaf ?_; (repeat ((with_reducible refine zaK ?_ ?_ ?_); (· simp [evb, pvb, rnb, kb, hN, dyb, sdb] <;> omega); (· kernel_rfl); try simp only [evb, pvb, rnb, kb, hN, seval]))
  refine zaG eA (by simp only [List.map_toArray, List.map_cons, List.map_nil, evb, kb, hN, seval]; exact hA ver hv0 _ _ oa5 _ cap5 hyv hb5 hkl hE5 hout) ?_
  rintro v6 w6 ⟨hc6, hq⟩
  rcases hq with ⟨h, _⟩ | ⟨s', r', out, h, rfl, hown⟩
  · rw [hdec] at h; cases h
  clear hout
  (repeat ((with_reducible refine zaK ?_ ?_ ?_); (· simp [evb, pvb, rnb, kb, hN, exV, exOK, dyb, sdb] <;> omega); (· kernel_rfl); try simp only [evb, pvb, rnb, kb, hN, seval, exV, exOK])); refine zac ?_; refine hK _ _ ?_; clear hK K
  have hcw6 : Chg (fun _ => False) w w6 := hcw5.trans hc6 fun _ _ h => h
  have hE6 := hE5.chg hc6 (fun h => h)
  have hbl : 0 < (kBf (decide (vf ≤ ver)) ver fs v).length := by unfold kBf; rw [List.length_append, be_length]; omega
  clear hown h
  generalize hbsq : kBf (decide (vf ≤ ver)) ver fs v = bs at hdec hb5 hcap5 hkl hyv hbl ⊢
  have hb56 : zaw w6 (fun k => (Value.slice oa5 bs.length cap5).ownBlock = some k) oa5 bs := hb5.chg hc6 fun _ _ _ h => h
  have hz' : ¬ ((bs.length : Int) = 0) := by omega
  have hz2 : ¬ bs = [] := fun e => by rw [e] at hbl; simp at hbl
  obtain ⟨j, hj⟩ : ∃ j : Nat, (j : Int) = at_ % (bs.length : Int) := ⟨(at_ % (bs.length : Int)).toNat, Int.toNat_of_nonneg (Int.emod_nonneg _ hz')⟩
  have hjl : j < bs.length := by have := Int.emod_lt_of_pos at_ (show (0 : Int) < (bs.length : Int) by omega); omega
  have hcut := cut_law hdec hjl
  have hlen' : (bs.take j).length = j := by rw [List.length_take]; omega
  have hyc : ∀ y, rS 2 (bs.take j) = some y → y.1 = ver := fun y hy => by
    have := mono_rS 2 (bs.take j) (bs.drop j) y.1 y.2 hy
    rw [List.take_append_drop] at this
    exact hyv (y.1, y.2 ++ bs.drop j) this
  have hw64 : IntKind.i64.wrap at_ = at_ := zbk at_ (by omega)
  refine wp_seq_k fun K hK => ?_; refine zaf ?_; (repeat ((with_reducible refine zaK ?_ ?_ ?_); (· simp [evb, pvb, rnb, kb, hN, g2, dyb, sdb] <;> omega); (· kernel_rfl); try simp only [evb, pvb, rnb, kb, hN, seval, g2]))
  refine zaL rfl (v := .int .i64 j) (w' := w6) (by
    simp only [execOp, eqGuard, evb, hN, Nat.reduceLT, Nat.reduceEqDiff, reduceIte, hw64]
    simp [binOp, Op.intDiv, hz2]
    rw [Int.tmod_eq_emod_of_nonneg ha0, hj]) ?_
  refine zaL rfl (v := .slice oa5 j cap5) (w' := w6) (by
    have := run_sliceTo (P := Tryz.prog) (t := 22) (e := 1) (n := j) (len := bs.length) (cap := cap5) (k := .i64) (oa := oa5) (w := w6) (by kernel_rfl) (by omega)
    simp only [execOp, Option.map_some, Option.map_none, evb, hN, Nat.reduceLT, Nat.reduceEqDiff, reduceIte, this, Sem.run_bind]; rfl) ?_
  have hbt : zaw w6 (fun k => (Value.slice oa5 bs.length cap5).ownBlock = some k) oa5 (bs.take j) := hb56.take j
  refine zaG eA (by
    simp only [List.map_toArray, List.map_cons, List.map_nil, evb, kb, hN, seval]
    have := hA ver hv0 w6 _ oa5 (bs.take j) cap5 hyc hbt (by rw [hlen']; omega) hE6 (fun s' r' h => by rw [hcut] at h; cases h)
    rw [hlen'] at this
    exact this) ?_
  rintro v8 w8 ⟨hc8, hq⟩
  rcases hq with ⟨_, rfl⟩ | ⟨s', r', out', h, _⟩
  · (repeat ((with_reducible refine zaK ?_ ?_ ?_); (· simp [evb, pvb, rnb, kb, hN, exV, exOK, dyb, sdb] <;> omega); (· kernel_rfl); try simp only [evb, pvb, rnb, kb, hN, seval, exV, exOK])); refine zac ?_; refine hK _ _ ?_; clear hK K
    refine wp_seq_k fun K hK => ?_; refine zaf ?_; (repeat (first | ((with_reducible refine zaK ?_ ?_ ?_); (· simp [evb, pvb, rnb, kb, hN, seval, dyb, sdb] <;> omega); (· kernel_rfl); try simp only [evb, pvb, rnb, kb, hN, seval]) | ((with_reducible apply zao); (· exact rfl); (· exact rfl); (· simp [evb, pvb, rnb, kb, hN, seval]; done); try simp only [evb, pvb, rnb, kb, hN, seval]) | ((with_reducible apply zat); (· exact rfl); (· exact rfl); (· simp [evb, pvb, rnb, kb, hN, seval]; done); try simp only [evb, pvb, rnb, kb, hN, seval]) | ((with_reducible apply zau); (· exact rfl); (· exact rfl); (· simp [evb, pvb, rnb, kb, hN, seval]; done); try simp only [evb, pvb, rnb, kb, hN, seval])))
    (repeat ((with_reducible refine zaK ?_ ?_ ?_); (· simp [evb, pvb, rnb, kb, hN, pickV, dyb, sdb] <;> omega); (· kernel_rfl); try simp only [evb, pvb, rnb, kb, hN, seval, pickV])); refine zac ?_; refine hK _ _ ?_; clear hK K; refine wp_ret ⟨by simp [zae, hD], ?_⟩; simp only [evb, kb, hN, seval]
    exact ⟨by simp [pickV, notV], hcw6.trans hc8 fun _ _ h => h⟩
  · rw [hcut] at h; cases h
end
end Go.Proofs.YtidlpocllgleiaaGreatDoor
