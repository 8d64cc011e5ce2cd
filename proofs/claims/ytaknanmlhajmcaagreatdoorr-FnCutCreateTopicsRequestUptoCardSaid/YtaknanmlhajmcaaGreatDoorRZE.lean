import Derived.Test.YtaknanmlhajmcaaGreatDoorRZD
/-
What the proofs of the laws rest on, part ZE.
-/
namespace Go.Proofs.YtaknanmlhajmcaaGreatDoorR
set_option linter.all false
open Go.RowKit
set_option maxRecDepth 10000
set_option maxHeartbeats 1000000
section
variable {y0 y1 y2 y3 y4 y5 y6 y7 y8 y9 y10 y11 y12 y13 y14 y15 y16 y17 y18 y19 y20 y21 y22 y23 y24 y25 y26 y27 y28 y29 y30 y31 y32 y33 y34 y35 y36 y37 y38 y39 : TypeId} {q0 q1 q2 q3 q4 q5 q6 q7 q8 q9 q10 q11 q12 q13 q14 q15 q16 q17 q18 q19 q20 q21 q22 q23 q24 q25 q26 q27 q28 q29 q30 q31 q32 q33 q34 q35 q36 q37 q38 q39 : String} {e0 e1 e2 e3 e4 e5 e6 e7 e8 e9 e10 e11 e12 e13 e14 e15 e16 e17 e18 e19 e20 e21 e22 e23 e24 e25 e26 e27 e28 e29 e30 e31 e32 e33 e34 e35 e36 e37 e38 e39 : Array Edge} {r0 r1 r2 r3 r4 r5 : Nat}
variable {E : REnv} {m aS iS x t1 t2 t3 t4 ty tyE : Nat} {of : K} {sub : List Fld} {c : Code}
theorem el_val1 {zc : List Value} (hty : (decide (of ≠ .struct) && decide (of ≠ .list) && decide (ksz of = 1) && sliceB Tryz.prog ty 1 && sizeB Tryz.prog tyE 1) = true) (h : RvC E m x (kfR of) (rK of E.flex) c)
    (s1 : rsl E m [t1, t2, t3, t4] [7, aS, iS] = true) (s2 : [t1, t2, t3, t4].all (fun t => decide (t ≠ x)) = true) :
    ElC E m aS iS (eszR E of sub) (oneR E of sub) (repR E of sub) zc
      (.seq c (.region r0 #[⟨some t1, .move (.tmp aS), y0, q0, e0, none⟩, ⟨some t2, .move (.tmp iS), y1, q1, e1, none⟩, ⟨some t3, .move (.tmp x), y2, q2, e2, none⟩, ⟨some t4, .indexAddr ty (.tmp t1) (.tmp t2), y3, q3, e3, none⟩, ⟨none, .store tyE (.tmp t4) (.tmp t3), y4, q4, e4, none⟩] false)) := by
  have e : eszR E of sub = ksz of := by
    cases of <;> first | rfl | (exfalso; simp at hty)
  rw [e]
  exact el_val hty h s1 s2
end
section
variable {y0 y1 y2 y3 y4 y5 y6 y7 y8 y9 y10 y11 y12 y13 y14 y15 y16 y17 y18 y19 y20 y21 y22 y23 y24 y25 y26 y27 y28 y29 y30 y31 y32 y33 y34 y35 y36 y37 y38 y39 : TypeId} {q0 q1 q2 q3 q4 q5 q6 q7 q8 q9 q10 q11 q12 q13 q14 q15 q16 q17 q18 q19 q20 q21 q22 q23 q24 q25 q26 q27 q28 q29 q30 q31 q32 q33 q34 q35 q36 q37 q38 q39 : String} {e0 e1 e2 e3 e4 e5 e6 e7 e8 e9 e10 e11 e12 e13 e14 e15 e16 e17 e18 e19 e20 e21 e22 e23 e24 e25 e26 e27 e28 e29 e30 e31 e32 e33 e34 e35 e36 e37 e38 e39 : Array Edge} {r0 r1 r2 r3 r4 r5 : Nat}
variable {E : REnv} {m sS k0 i I x y t1 t2 t3 t4 t5 T ty idx : Nat} {us : Array TypeId} {f : Fld} {fs : List Fld} {pre : S → Prop} {sem : Bs → Option (D × Bs)} {fn : FuncId} {a1 a2 a3 a4 a5 : Int} {of : K} {sub : List Fld} {c : Code}
end
end Go.Proofs.YtaknanmlhajmcaaGreatDoorR
namespace Go.Proofs.YtaknanmlhajmcaaGreatDoorR
set_option linter.all false
open Go.RowKit
set_option maxRecDepth 10000
set_option maxHeartbeats 2000000
section
variable {y0 y1 y2 y3 y4 y5 y6 y7 y8 y9 y10 y11 y12 y13 y14 y15 y16 y17 y18 y19 y20 y21 y22 y23 y24 y25 y26 y27 y28 y29 y30 y31 y32 y33 y34 y35 y36 y37 y38 y39 : TypeId} {q0 q1 q2 q3 q4 q5 q6 q7 q8 q9 q10 q11 q12 q13 q14 q15 q16 q17 q18 q19 q20 q21 q22 q23 q24 q25 q26 q27 q28 q29 q30 q31 q32 q33 q34 q35 q36 q37 q38 q39 : String} {e0 e1 e2 e3 e4 e5 e6 e7 e8 e9 e10 e11 e12 e13 e14 e15 e16 e17 e18 e19 e20 e21 e22 e23 e24 e25 e26 e27 e28 e29 e30 e31 e32 e33 e34 e35 e36 e37 e38 e39 : Array Edge} {r0 r1 r2 r3 r4 r5 : Nat}
variable {r6 r7 r8 r9 r10 r11 r12 r13 r14 : Nat}
variable {y40 y41 y42 y43 y44 y45 y46 y47 y48 y49 y50 y51 y52 y53 y54 : TypeId} {q40 q41 q42 q43 q44 q45 q46 q47 q48 q49 q50 q51 q52 q53 q54 : String} {e40 e41 e42 e43 e44 e45 e46 e47 e48 e49 e50 e51 e52 e53 e54 : Array Edge}
variable {E : REnv} {m mB sS k0 i I x y ys aS iS lS vS t1 t2 t3 t4 t5 t6 t7 t8 t9 t10 t11 t12 w1' w2' w3' w4' w5' u1 u2 u3 u4 u5 v1 v2 v3 v4 b1 b2 ug uo uc ui n1 n2 n3 n4 n5 n6 n7 un1 un2 : Nat} {fs sub : List Fld} {pre : S → Prop} {c body cl : Code} {us us2 us3 : Array TypeId} {fn : FuncId} {T ty ti idx ua : Nat} {a1 a2 a3 a4 a5 : Int} {of : K} {z : Value}
variable {z4 z5 : TypeId} {p4 p5 : String} {j4 j5 : Array Edge}
theorem wl_lit0g {ops : Array Oper} {Q : Exit → Act → World → Prop} {a : Act} {w : World} {rest : List Oper} {d : Option Nat} {tt : TypeId} {pos : String} {af : Array Edge} {e sz : Nat} (ht : (Tryz.prog).underlying ty = some (.slice e)) (hs : sizeB Tryz.prog e sz = true) (hz : zeroB Tryz.prog e z) (h0 : 0 < sz)
    (h : ∀ w', Chg (fun _ => False) w w' → WL Tryz.prog ops Q rest (a.put d (.slice (some ⟨w.heap.size, 0, none⟩) 0 0)) w') :
    WL Tryz.prog ops Q (⟨d, .buildSlice ty 0 #[], tt, pos, af, none⟩ :: rest) a w := by
  have hr := run_buildSlice (P := Tryz.prog) (w := w) (t := ty) (e := e) (sz := sz) (z := z) ht hs hz [] (by intro v hv; cases hv) (by simp) h0
  simp only [List.length_nil, List.zipIdx_nil, List.map_nil, List.flatMap_nil] at hr
  exact zaM rfl (v := .slice (some ⟨w.heap.size, 0, none⟩) 0 0) (w' := w.alloc (.cells #[] e)) (by simp only [execOp, List.map_toArray, List.map_nil, Sem.run_bind, hr]; rfl) (h _ (Chg.alloc _ _ _))
theorem roomB_out {t n : Nat} (h : roomB Tryz.prog t n = true) : ∃ e, (Tryz.prog).underlying t = some (.slice e) ∧ sizeB Tryz.prog e n = true ∧ 0 < n := by
  unfold roomB at h
  split at h
  · rename_i e he
    refine ⟨e, he, ?_⟩
    split at h
    · rename_i i hi
      simp only [Bool.and_eq_true, beq_iff_eq, decide_eq_true_eq] at h
      exact ⟨by simp [sizeB, hi, h.1.1], h.2⟩
    · cases h
  · cases h
theorem rf_listN (hf : fs[i]? = some (.mk .list a1 a2 a3 a4 a5 of sub))
    (hB2 : (decide (0 ≤ a3) && roomB Tryz.prog ty (eszR E of sub) && intTB Tryz.prog ti && sliceB Tryz.prog ty (eSz Tryz.prog ty) && decide (6 < E.N) && decide (fsz E.fl (.mk .list a1 a2 a3 a4 a5 of sub) = 1) && fieldB Tryz.prog T idx (k0 + foff E.fl fs i) 1 && sizeB Tryz.prog ty 1 && scalB Tryz.prog ty) = true)
    (hz1 : ∀ e, (Tryz.prog).underlying ty = some (.slice e) → zeroB Tryz.prog e z) (hz2 : z.cells.size = eszR E of sub) (hbody : ElC E (iS + 1) aS iS (eszR E of sub) (oneR E of sub) (repR E of sub) z.cells.toList body)
    (hOk : zaQ Tryz.prog 90) (hCo : zaQ Tryz.prog 91) (hl : RnC E lS lS cl)
    (hS : (rsl E m [w1', w2', w3', w4', vS, w5', aS, lS] [sS, 7] && (decide (aS < lS) && decide (aS ≠ 6) && decide (m ≤ lS)) && rsl E iS [t1, t2, t3] [7, aS, lS] && rsl E iS [t4, t5] [aS, lS] && rsl E iS [t6, t7, t8, t9, t10] [aS, lS] &&
      rsl E (iS + 1) [u1, u2, u3, u4, u5] [7, aS, iS, lS] && rsl E iS [iS] [aS, lS] && rsl E m [t11, vS] [] && rsl E m [v1, v2, v3, v4] [sS, 7] && [v1, v2, v3, v4].all (fun t => decide (t ≠ vS)) && rsl E m [aS] [] && (decide (m ≤ iS) && decide (aS ≠ lS)) &&
      rsl E iS [n1, n2, n3, n4, n5, n6, n7] [8, aS, lS]) = true) :
    RdC E m sS k0 fs (i + 1) (Fresh fs i) (semSet i (decF E.flex E.ver (.mk .list a1 a2 a3 a4 a5 of sub)))
      (.seq (.region r10 #[⟨some w1', .move (.tmp sS), y0, q0, e0, none⟩, ⟨some w2', .nilCheck (.tmp w1'), y1, q1, e1, none⟩, ⟨some w3', .fieldAddr T (.tmp w2') idx, y2, q2, e2, none⟩, ⟨some w4', .load ty (.tmp w3'), y3, q3, e3, none⟩, ⟨some vS, .assign (.tmp w4'), y4, q4, e4, none⟩] false)
        (.seq (.region r11 #[⟨some w5', .move (.tmp vS), y5, q5, e5, none⟩, ⟨some aS, .assign (.tmp w5'), y6, q6, e6, none⟩] false)
          (.seq (.region r12 #[⟨some lS, .assign (.const (.int .i32 0)), y7, q7, e7, none⟩] false) (.seq cl
      (.seq (.seq (.region r13 #[⟨some n1, .move (.tmp 8), y8, q8, e8, none⟩, ⟨some n2, .binOp .lss un1 (.tmp n1) (.const (.int .i16 a3)) un1, y9, q9, e9, none⟩, ⟨some n3, .move (.tmp n2), y10, q10, e10, none⟩, ⟨some n4, .move (.tmp lS), z4, p4, j4, some (2, false)⟩, ⟨some n5, .binOp .eql un2 (.tmp n4) (.const (.int .i32 0)) un2, z5, p5, j5, some (2, false)⟩, ⟨some n6, .pick (.tmp n3) (.const (.bool true)) (.tmp n5), y11, q11, e11, none⟩] false)
        (.cond (.tmp n6) (.region r14 #[⟨some n7, .buildSlice ty 0 #[], y12, q12, e12, none⟩, ⟨some aS, .assign (.tmp n7), y13, q13, e13, none⟩] false) .skip))
      (.seq (.seq (.region r0 #[⟨some t1, .call { callee := .value (.func 90), args := #[.tmp 7], argTypes := us }, y14, q14, e14, none⟩, ⟨some t2, .unOp .not uo (.tmp t1), y15, q15, e15, none⟩] false)
        (.cond (.tmp t2) (.seq (.region r1 #[⟨some t3, .call { callee := .value (.func 91), args := #[.tmp 7], argTypes := us2 }, y16, q16, e16, none⟩, ⟨some 6, .assign (.tmp t3), y17, q17, e17, none⟩] false) .ret) .skip))
      (.seq (.region r2 #[⟨some t4, .move (.tmp aS), y18, q18, e18, none⟩, ⟨some t5, .slice ty (.tmp t4) none (some (.const (.int .i64 0))) none, y19, q19, e19, none⟩, ⟨some aS, .assign (.tmp t5), y20, q20, e20, none⟩] false)
      (.seq (.seq (.region r3 #[⟨some t6, .move (.tmp lS), y21, q21, e21, none⟩, ⟨some t7, .binOp .gtr ug (.tmp t6) (.const (.int .i32 0)) ug, y22, q22, e22, none⟩] false)
          (.cond (.tmp t7) (.region r4 #[⟨some t8, .move (.tmp aS), y23, q23, e23, none⟩, ⟨some t9, .move (.tmp lS), y24, q24, e24, none⟩, ⟨some t10, .call { callee := .builtin .append, args := #[.tmp t8, .tmp t9], argTypes := #[ty, ti] }, y25, q25, e25, none⟩, ⟨some aS, .assign (.tmp t10), y26, q26, e26, none⟩] false) .skip))
      (.seq (.seq (.region r5 #[⟨some iS, .assign (.const (.int .i32 0)), y27, q27, e27, none⟩] false) (.block b1 (.loop (.seq (.seq (.region r6 #[⟨some u1, .move (.tmp iS), y28, q28, e28, none⟩, ⟨some u2, .move (.tmp lS), y29, q29, e29, none⟩, ⟨some u3, .binOp .lss ua (.tmp u1) (.tmp u2) ua, y30, q30, e30, none⟩] false) (.cond (.tmp u3) .skip (.exit b1)))
          (.seq (.block b2 body) (.region r7 #[⟨some u4, .move (.tmp iS), y31, q31, e31, none⟩, ⟨some u5, .binOp .add ua (.tmp u4) (.const (.int .i32 1)) ua, y32, q32, e32, none⟩, ⟨some iS, .assign (.tmp u5), y33, q33, e33, none⟩] false))))))
        (.seq (.region r8 #[⟨some t11, .move (.tmp aS), y34, q34, e34, none⟩, ⟨some vS, .assign (.tmp t11), y35, q35, e35, none⟩] false) (.region r9 #[⟨some v1, .move (.tmp sS), y36, q36, e36, none⟩, ⟨some v2, .move (.tmp vS), y37, q37, e37, none⟩, ⟨some v3, .nilCheck (.tmp v1), y38, q38, e38, none⟩, ⟨some v4, .fieldAddr T (.tmp v3) idx, y39, q39, e39, none⟩, ⟨none, .store ty (.tmp v4) (.tmp v2), y40, q40, e40, none⟩] false)))))))))))  := by
  simp only [Bool.and_eq_true] at hB2 hS
  obtain ⟨⟨⟨⟨⟨⟨⟨⟨c1, c2⟩, c3⟩, c4⟩, c5⟩, c6⟩, c7⟩, c8⟩, c9⟩ := hB2
  obtain ⟨⟨⟨⟨⟨⟨⟨⟨⟨⟨⟨⟨p1, p2⟩, p3⟩, p4⟩, p5⟩, p6⟩, p7⟩, p8⟩, p9⟩, p10⟩, p11⟩, p12⟩, p13⟩ := hS
  have a3n : 0 ≤ a3 := of_decide_eq_true c1
  obtain ⟨e, he, hse, h0e⟩ := roomB_out c2
  obtain ⟨hmi, hw, hr, hnd⟩ := za0 p13
  simp only [List.mem_cons, List.not_mem_nil, or_false, forall_eq_or_imp, forall_eq, List.nodup_cons, not_or, List.nodup_nil, and_true, not_false_eq_true] at hw hnd hr
  obtain ⟨hm11, hw11, _, _⟩ := za0 p11
  simp only [List.mem_cons, List.not_mem_nil, or_false, forall_eq] at hw11
  have p12' := p12
  simp only [Bool.and_eq_true, decide_eq_true_eq] at p12'
  refine rf_listX hf (by simp only [Bool.and_eq_true]; exact ⟨⟨c6, c7⟩, c9⟩) hl p1 (by simp only [Bool.and_eq_true] at p2 ⊢; exact p2) ?_
  intro a0 a w0 w O R B p st s L hB hP hk hc hrs hll gl hL ga
  have hN : a.tmps.size = E.N := hk.size.trans hB.ok.1
  have g8 : get a 8 = .int .i16 E.ver := (hk.slot 8 ⟨hm11.1, by decide⟩).trans hB.ok.2.2.2.1
  have up : ∀ {a a' : Act}, zaC (RS iS) a a' → zaC (RS m) a a' := fun h => h.mono fun t ht => ⟨by have := ht.1; omega, ht.2⟩
  refine wp_seq_k fun K hK => ?_
  have tail : ∀ {a' : Act} {w' : World} {oa : Option Addr}, zaC (RS m) a0 a' → Chg (fun k => k = R) w0 w' → RdS w' (fun g => ¬ O g) R ((st.bind (rLen E.flex)).map (·.2)) → get a' lS = .int .i32 L → get a' aS = .slice oa 0 0 → (∀ y, st.bind (rLen E.flex) = some y → (if 0 < y.1 then false else oa.isNone) = nilArr a3 E.ver y.1) → K a' w' := by
    intro a' w' oa hk' hc' hrs' gl' ga' hn
    refine hK _ _ ?_
    exact rl_rest hf (by simp only [Bool.and_eq_true]; exact ⟨⟨⟨c2, c3⟩, c4⟩, c5⟩) (by simp only [Bool.and_eq_true]; exact ⟨⟨c6, c7⟩, c8⟩) hz1 hz2 hOk hCo hbody p3 p4 p5 p6 p7 p8 p9 p10 p11 (by simp only [Bool.and_eq_true]; exact p12) hB hP hk' hc' hrs' hll gl' hL ga' hn
  refine wp_seq_k fun K1 hK1 => ?_
  have fill : ∀ (yy yz : TypeId) (qq qz : String) (ee ez : Array Edge) (a' : Act), zaC (RS iS) a a' → get a' lS = .int .i32 L → (∀ y, st.bind (rLen E.flex) = some y → nilArr a3 E.ver y.1 = false) → get a' n6 = .bool true → (Code.cond (.tmp n6) (.region r14 #[⟨some n7, .buildSlice ty 0 #[], yy, qq, ee, none⟩, ⟨some aS, .assign (.tmp n7), yz, qz, ez, none⟩] false) .skip).wp Tryz.prog (Exit.then K (RdQ E m k0 fs (i + 1) (semSet i (decF E.flex E.ver (.mk .list a1 a2 a3 a4 a5 of sub))) a0 w0 O R B p st s)) a' w := by
    intro yy yz qq qz ee ez a' hk' gl' hn' g6
    have hN' : a'.tmps.size = E.N := hk'.size.trans hN
    refine wp_cond_true (by rw [zad, g6]) ?_
    refine zaf ?_
    refine wl_lit0g he hse (hz1 e he) h0e ?_
    intro w' hcw
    refine zam ?_
    rw [zad, zaa (by rw [hN']; exact hw.2.2.2.2.2.2.2.1)]
    refine zac ?_
    have hkf : zaC (RS m) a' ((a'.put (some n7) (.slice (some ⟨w.heap.size, 0, none⟩) 0 0)).put (some aS) (.slice (some ⟨w.heap.size, 0, none⟩) 0 0)) := ((zaC.refl _ _).put (fun h => hw.2.2.2.2.2.2.1 ⟨by have := h.1; have := p12'.1; omega, h.2⟩) _).put hw11.1 _
    refine tail ((hk.trans (up hk')).trans hkf) (hc.trans hcw fun _ _ h => h.elim) (hrs.stay (Stay.of hcw fun _ _ _ h => h) (hcw.block R hrs.lt fun h => h)) ?_ (zaa (by rw [zag, hN']; exact hw11.2.1)) ?_
    · rw [zab p12'.2, zab (fun e => hw.2.2.2.2.2.2.1 (by rw [e]; exact hr.2.2))]; exact gl'
    · intro y hy
      rw [hn' y hy]
      simp
  have nx : ∀ {t : Nat}, ¬ RS iS t → ¬ t = lS ∧ ¬ t = aS := fun h => ⟨fun e => h (by rw [e]; exact hr.2.2), fun e => h (by rw [e]; exact hr.2.1)⟩
  refine zaf ?_
  refine zav ?_
  rw [zad, g8]
  have x1 : get (a.put (some n1) (.int .i16 E.ver)) n1 = .int .i16 E.ver := zaa (by rw [hN]; exact hw.1.2.1)
  refine zaL (by simp only [dyn, zad, zah, x1]; rfl) rfl ?_
  simp only [pv, zad, zah, x1, cmp2]
  refine zav ?_
  rw [zad, zaa (by rw [zag, hN]; exact hw.2.1.2.1)]
  obtain ⟨b1', hb1'⟩ : ∃ b1' : Act, b1' = ((a.put (some n1) (.int .i16 E.ver)).put (some n2) (.bool (decide (E.ver < a3)))).put (some n3) (.bool (decide (E.ver < a3))) := ⟨_, rfl⟩
  rw [← hb1']
  have hNb : b1'.tmps.size = E.N := by rw [hb1']; simp only [zag, hN]
  have hkb : zaC (RS iS) a b1' := by rw [hb1']; exact (((zaC.refl _ _).put hw.1.1 _).put hw.2.1.1 _).put hw.2.2.1.1 _
  have gb3 : get b1' n3 = .bool (decide (E.ver < a3)) := by rw [hb1']; exact zaa (by simp only [zag, hN]; exact hw.2.2.1.2.1)
  have glb : get b1' lS = .int .i32 L := by rw [hb1', zab (nx hw.2.2.1.1).1, zab (nx hw.2.1.1).1, zab (nx hw.1.1).1]; exact gl
  have gab : get b1' aS = .slice none 0 0 := by rw [hb1', zab (nx hw.2.2.1.1).2, zab (nx hw.2.1.1).2, zab (nx hw.1.1).2]; exact ga
  clear hb1' x1
  by_cases hv : E.ver < a3
  · rw [decide_eq_true hv] at gb3
    refine zat (t := n3) rfl rfl gb3 ?_
    refine zat (t := n3) rfl rfl (by rw [zab (fun e => hnd.2.2.1.1 e.symm)]; exact gb3) ?_
    refine zar (by rw [zad, zab (fun e => hnd.2.2.1.2.1 e.symm), zab (fun e => hnd.2.2.1.1 e.symm)]; exact gb3) ?_
    rw [zah]
    refine zac (hK1 _ _ ?_)
    refine fill _ _ _ _ _ _ _ ?_ ?_ (fun y _ => ?_) ?_
    · exact ((hkb.put hw.2.2.2.1.1 _).put hw.2.2.2.2.1.1 _).put hw.2.2.2.2.2.1.1 _
    · rw [zab (nx hw.2.2.2.2.2.1.1).1, zab (nx hw.2.2.2.2.1.1).1, zab (nx hw.2.2.2.1.1).1]; exact glb
    · unfold nilArr
      rw [if_neg (by omega), decide_eq_false (show ¬ a3 ≤ E.ver by omega), Bool.and_false]
    · exact zaa (by simp only [zag, hNb]; exact hw.2.2.2.2.2.1.2.1)
  · rw [decide_eq_false hv] at gb3
    refine zao (t := n3) rfl rfl gb3 ?_
    refine zav ?_
    rw [zad, glb]
    have x4 : get (b1'.put (some n4) (.int .i32 L)) n4 = .int .i32 L := zaa (by rw [hNb]; exact hw.2.2.2.1.2.1)
    refine zao (t := n3) rfl rfl (by rw [zab (fun e => hnd.2.2.1.1 e.symm)]; exact gb3) ?_
    refine zaL (by simp only [dyn, zad, zah, x4]; rfl) rfl ?_
    simp only [pv, zad, zah, x4, cmp2]
    refine zaq (by rw [zad, zab (fun e => hnd.2.2.1.2.1 e.symm), zab (fun e => hnd.2.2.1.1 e.symm)]; exact gb3) ?_
    rw [zad, zaa (by rw [zag, hNb]; exact hw.2.2.2.2.1.2.1)]
    have hkc : ∀ v, zaC (RS iS) a (((b1'.put (some n4) (.int .i32 L)).put (some n5) v).put (some n6) v) := fun v => ((hkb.put hw.2.2.2.1.1 _).put hw.2.2.2.2.1.1 _).put hw.2.2.2.2.2.1.1 _
    have glc : ∀ v, get (((b1'.put (some n4) (.int .i32 L)).put (some n5) v).put (some n6) v) lS = .int .i32 L := fun v => by rw [zab (nx hw.2.2.2.2.2.1.1).1, zab (nx hw.2.2.2.2.1.1).1, zab (nx hw.2.2.2.1.1).1]; exact glb
    have gc6 : ∀ v, get (((b1'.put (some n4) (.int .i32 L)).put (some n5) v).put (some n6) v) n6 = v := fun v => zaa (by simp only [zag, hNb]; exact hw.2.2.2.2.2.1.2.1)
    refine zac (hK1 _ _ ?_)
    by_cases hL0 : L = 0
    · refine fill _ _ _ _ _ _ _ ?_ ?_ (fun y hy => ?_) ?_
      · exact hkc _
      · exact glc _
      · rw [← hL y hy, hL0]
        unfold nilArr
        rw [if_neg (by omega)]
        rfl
      · rw [gc6, hL0]; rfl
    · refine wp_cond_false (by rw [zad, gc6, beq_eq_false_iff_ne.2 hL0]) ?_
      refine wp_skip ?_
      refine tail (oa := none) (hk.trans (up (hkc _))) hc hrs (glc _) (by rw [zab (nx hw.2.2.2.2.2.1.1).2, zab (nx hw.2.2.2.2.1.1).2, zab (nx hw.2.2.2.1.1).2]; exact gab) (fun y hy => ?_)
      rw [← hL y hy]
      have e1 : nilArr a3 E.ver L = decide (L < 0) := by
        unfold nilArr
        rw [if_neg (by omega), decide_eq_true (show a3 ≤ E.ver by omega), Bool.and_true]
      rw [e1]
      by_cases hp : 0 < L
      · rw [if_pos hp, decide_eq_false (by omega)]
      · rw [if_neg hp, decide_eq_true (by omega)]; rfl
end
end Go.Proofs.YtaknanmlhajmcaaGreatDoorR
