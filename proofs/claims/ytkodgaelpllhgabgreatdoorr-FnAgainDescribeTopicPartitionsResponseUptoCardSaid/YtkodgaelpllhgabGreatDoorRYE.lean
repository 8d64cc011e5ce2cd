import Derived.Test.YtkodgaelpllhgabGreatDoorRYD
/-
What the proofs of the laws rest on, part YE.
-/
namespace Go.Proofs.YtkodgaelpllhgabGreatDoorR
set_option linter.all false
open Go.RowKit
set_option maxRecDepth 10000
set_option maxHeartbeats 1000000
section
variable {y0 y1 y2 y3 y4 y5 y6 y7 y8 y9 y10 y11 y12 y13 y14 y15 y16 y17 y18 y19 y20 y21 y22 y23 y24 y25 y26 y27 y28 y29 y30 y31 y32 y33 y34 y35 y36 y37 y38 y39 : TypeId} {q0 q1 q2 q3 q4 q5 q6 q7 q8 q9 q10 q11 q12 q13 q14 q15 q16 q17 q18 q19 q20 q21 q22 q23 q24 q25 q26 q27 q28 q29 q30 q31 q32 q33 q34 q35 q36 q37 q38 q39 : String} {e0 e1 e2 e3 e4 e5 e6 e7 e8 e9 e10 e11 e12 e13 e14 e15 e16 e17 e18 e19 e20 e21 e22 e23 e24 e25 e26 e27 e28 e29 e30 e31 e32 e33 e34 e35 e36 e37 e38 e39 : Array Edge} {r0 r1 r2 r3 r4 r5 : Nat}
variable {E : REnv} {m aS iS x t1 t2 t3 t4 ty tyE : Nat} {of : K} {sub : List Fld} {c : Code}
theorem el_val1 {zc : List Value} (hty : (decide (of ≠ .struct) && decide (of ≠ .list) && decide (ksz of = 1) && sliceB Tryz.prog ty 1 && sizeB Tryz.prog tyE 1) = true) (h : RvC E m x (kfR of) (rK of E.flex) c)
    (s1 : rsl E m [t1, t2, t3, t4] [7, aS, iS] = true) (s2 : [t1, t2, t3, t4].all (fun t => decide (t ≠ x)) = true) :
    ElC E m aS iS (eszR E of sub) (oneR E of sub) (repR E of sub) zc
      (.seq c (.region r0 #[⟨some t1, .move (.tmp aS), y0, q0, e0, none⟩, ⟨some t2, .move (.tmp iS), y1, q1, e1, none⟩, ⟨some t3, .move (.tmp x), y2, q2, e2, none⟩, ⟨some t4, .indexAddr ty (.tmp t1) (.tmp t2), y3, q3, e3, none⟩, ⟨none, .store tyE (.tmp t4) (.tmp t3), y4, q4, e4, none⟩] false)) := by
  have e : eszR E of sub = ksz of := by
    cases of <;> first | rfl | (exfalso; simp at hty)
  rw [e]
  exact el_val hty h s1 s2
end
section
variable {y0 y1 y2 y3 y4 y5 y6 y7 y8 y9 y10 y11 y12 y13 y14 y15 y16 y17 y18 y19 y20 y21 y22 y23 y24 y25 y26 y27 y28 y29 y30 y31 y32 y33 y34 y35 y36 y37 y38 y39 : TypeId} {q0 q1 q2 q3 q4 q5 q6 q7 q8 q9 q10 q11 q12 q13 q14 q15 q16 q17 q18 q19 q20 q21 q22 q23 q24 q25 q26 q27 q28 q29 q30 q31 q32 q33 q34 q35 q36 q37 q38 q39 : String} {e0 e1 e2 e3 e4 e5 e6 e7 e8 e9 e10 e11 e12 e13 e14 e15 e16 e17 e18 e19 e20 e21 e22 e23 e24 e25 e26 e27 e28 e29 e30 e31 e32 e33 e34 e35 e36 e37 e38 e39 : Array Edge} {r0 r1 r2 r3 r4 r5 : Nat}
variable {E : REnv} {m sS k0 i I x y t1 t2 t3 t4 t5 T ty idx : Nat} {us : Array TypeId} {f : Fld} {fs : List Fld} {pre : S → Prop} {sem : Bs → Option (D × Bs)} {fn : FuncId} {a1 a2 a3 a4 a5 : Int} {of : K} {sub : List Fld} {c : Code}
theorem rf_uuid2 (hf : fs[i]? = some (.mk .uuid a1 a2 a3 a4 a5 of sub)) (hF : (zbi Tryz.prog T idx (k0 + foff E.fl fs i) 16 && sizeB Tryz.prog ty 16) = true) (hsl0 : rsl E m [t5, x] [7] = true) (hux : decide (t5 ≠ x) = true) (hsl : rsl E m [t1, t2, t3, t4] [sS, 7] = true) (hx : [t1, t2, t3, t4].all (fun t => decide (t ≠ x)) = true) :
    RdC E m sS k0 fs (i + 1) pre (semSet i (decF E.flex E.ver (.mk .uuid a1 a2 a3 a4 a5 of sub))) (.seq (.region r1 #[⟨some t5, .call { callee := .value (.func 77), args := #[.tmp 7], argTypes := us }, y0, q0, e0, none⟩, ⟨some x, .alloc 79, y1, q1, e1, none⟩, ⟨none, .store 79 (.tmp x) (.tmp t5), y2, q2, e2, none⟩] false)
      (.region r0 #[⟨some t1, .move (.tmp sS), y3, q3, e3, none⟩, ⟨some t2, .load 79 (.tmp x), y4, q4, e4, none⟩, ⟨some t3, .nilCheck (.tmp t1), y5, q5, e5, none⟩, ⟨some t4, .fieldAddr T (.tmp t3) idx, y6, q6, e6, none⟩, ⟨none, .store ty (.tmp t4) (.tmp t2), y7, q7, e7, none⟩] false)) := by
  simp only [Bool.and_eq_true] at hF
  obtain ⟨f2, f3⟩ := hF
  obtain ⟨hm0, hw0, hr0, hnd0⟩ := zaU hsl0
  simp only [List.mem_cons, List.not_mem_nil, or_false, forall_eq_or_imp, forall_eq, List.nodup_cons, not_or, List.nodup_nil, and_true, not_false_eq_true] at hw0 hnd0 hr0
  obtain ⟨hm, hw, hr, hnd⟩ := zaU hsl
  simp only [List.mem_cons, List.not_mem_nil, or_false, forall_eq_or_imp, forall_eq, List.nodup_cons, not_or, List.nodup_nil, and_true, not_false_eq_true, List.all_cons, List.all_nil, Bool.and_true, Bool.and_eq_true, decide_eq_true_eq] at hw hnd hr hx
  intro a w O R B p st s hB hP _
  have hNa := hB.ok.1
  refine wp_seq_k fun K hK => ?_
  refine zah ?_
  refine wl_rd (fun args w => Tryz.call77 args w) Uuid_c (by simp only [List.map_toArray, List.map_cons, List.map_nil, zac, hB.rd]) hB.rs (fun h => h hB.oR) hB.new ?_
  intro v w0 hq0
  obtain ⟨l, ⟨rfl, hl16⟩, k2⟩ := hq0.val
  refine zbb (z := zaR (List.replicate 16 (.int .u8 0))) (fun w => Tryz.zeroValue79 w) fun w1a hc1a hb1a hs1a => ?_
  have h5x : t5 ≠ x := of_decide_eq_true hux
  refine zbf (b := w0.heap.size) (n := 16) (l' := l.map zaG) (by kernel_rfl) (by simp only [zac, zaa, zad, hNa, hw0]) (by
    simp only [zac, zab (Ne.symm h5x), zaa, zad, hNa, hw0]; rfl) hb1a (by simpa using hl16) (by intro u hu; obtain ⟨z, _, rfl⟩ := List.mem_map.1 hu; rfl) (by simp [zaR, Value.cells]) fun w1 hbx hc1b => ?_
  refine zae (hK _ _ ?_)
  clear hK K
  have hck : Chg (fun _ => False) w0 w1 := hc1a.trans hc1b fun n hn e => by omega
  have hR0 := hq0.rd.lt
  have hqchg : Chg (fun k => k = R) w w1 := hq0.chg.trans hck fun _ _ h => h.elim
  have hqrd := hq0.rd.stay (zbr.of hck fun _ _ _ h => h) (hck.block R hR0 (fun h => h))
  have q1 : zaz (RS m) a ((a.put (some t5) (.agg (l.map zaG).toArray)).put (some x) (.pointer (some ⟨w0.heap.size, 0, none⟩))) := ((zaz.refl _ _).put hw0.1.1 _).put hw0.2.1 _
  have q5 : get ((a.put (some t5) (.agg (l.map zaG).toArray)).put (some x) (.pointer (some ⟨w0.heap.size, 0, none⟩))) x = .pointer (some ⟨w0.heap.size, 0, none⟩) := zaa (by rw [zad, hNa]; exact hw0.2.2.1)
  change Code.wp _ _ _ ((a.put (some t5) (.agg (l.map zaG).toArray)).put (some x) (.pointer (some ⟨w0.heap.size, 0, none⟩))) w1
  generalize ((a.put (some t5) (.agg (l.map zaG).toArray)).put (some x) (.pointer (some ⟨w0.heap.size, 0, none⟩))) = ac at q1 q5 ⊢
  have hN : ac.tmps.size = E.N := q1.size.trans hNa
  have hs : get ac sS = .pointer (some ⟨B, p, none⟩) := (q1.slot _ hr.1).trans hP.pt
  obtain ⟨cs, Tb, c1, c2⟩ := hP.at_
  have hfs : fsz E.fl (.mk .uuid a1 a2 a3 a4 a5 of sub) = 16 := rfl
  have hfo : foff E.fl fs i + 16 ≤ lsz E.fl fs := by
    obtain ⟨_, v1, v2, g3, g4, g5⟩ := c2
    obtain ⟨_, _, _, h6⟩ := g4.get hf
    have := g4.len.1
    omega
  have hsz : lsz E.fl fs ≤ ssz E.fl fs := by unfold ssz; omega
  have hb1 : Blk w1 B cs Tb := c1.chg hqchg (fun e => hP.ne e.symm)
  have e : (decF E.flex E.ver (.mk .uuid a1 a2 a3 a4 a5 of sub)) = fun bs => (take? 16 bs).map fun y => (.uuid y.1, y.2) := by
    funext bs; unfold decF; rfl
  rw [e]
  have hl : ∀ st : Option Bs, st.bind (fun bs => (take? 16 bs).map fun y => (D.uuid y.1, y.2)) = (st.bind (take? 16)).map fun y => (D.uuid y.1, y.2) := fun st => by cases st <;> rfl
  have he : (st.bind (fun bs => (take? 16 bs).map fun y => (D.uuid y.1, y.2))).map (·.2) = (st.bind (take? 16)).map (·.2) := by rw [hl, Option.map_map]; rfl
  have hvc : (Value.agg (l.map zaG).toArray).cells.toList = l.map zaG := by simp [Value.cells]
  refine zah ?_
  refine zat ?_
  rw [zac, hs]
  refine za3 (b := w0.heap.size) (o := 0) (n := 16) (by kernel_rfl) (by kernel_rfl) (by rw [zac, zab hx.1, q5]) hbx (by simp [hl16]) ?_
  have e16 : ((l.map zaG).drop 0).take 16 = l.map zaG := by rw [List.drop_zero]; exact List.take_of_length_le (by simp [hl16])
  rw [e16]
  refine zaQ (p := ⟨B, p, none⟩) (by simp only [zac, zaa, zab, zaf, ne_eq, zad, hN, hnd, hw, not_false_eq_true]) ?_
  refine zaP (b := B) (o := p) f2 (by simp only [zac, zaa, zab, zaf, ne_eq, zad, hN, hnd, hw, not_false_eq_true]) ?_
  refine za4 (b := B) (o := p + (k0 + foff E.fl fs i)) (n := 16) (v := .agg (l.map zaG).toArray) f3 (by simp only [zac, zaa, zab, zaf, ne_eq, zad, hN, hnd, hw, not_false_eq_true]) (by simp only [zac, zaa, zab, zaf, ne_eq, zad, hN, hnd, hw, not_false_eq_true]) hb1 (by simp [Value.cells, hl16])
    (by intro u hu; rw [hvc] at hu; obtain ⟨z, _, rfl⟩ := List.mem_map.1 hu; rfl) (by have := c1.lt; omega) fun w2 hb2 hc2 => ?_
  rw [hvc] at hb2
  refine zae ?_
  rw [show p + (k0 + foff E.fl fs i) = p + k0 + foff E.fl fs i by omega] at hb2
  exact set_field hP hB hf ((((q1.put hw.1.1 _).put hw.2.1.1 _).put hw.2.2.1.1 _).put hw.2.2.2.1 _) hqchg (by rw [he]; exact hqrd) (by rw [he]; exact (less_take 16).st st) (d := .uuid l) (vs := l.map zaG) (by unfold RepF; exact ⟨hl16, rfl⟩) (by rw [hfs]; simpa using hl16) (fun z hz => by
    rw [hl] at hz
    cases hb : st.bind (take? 16) with
    | none => rw [hb] at hz; cases hz
    | some u =>
      rw [hb] at hz
      simp only [Option.map_some, Option.some.injEq] at hz
      rw [← hz, k2 u hb]) c1 hb2 hc2
end
end Go.Proofs.YtkodgaelpllhgabGreatDoorR
namespace Go.Proofs.YtkodgaelpllhgabGreatDoorR
set_option linter.all false
open Go.RowKit
set_option maxRecDepth 10000
set_option maxHeartbeats 2000000
section
variable {y0 y1 y2 y3 y4 y5 y6 y7 y8 y9 y10 y11 y12 y13 y14 y15 y16 y17 y18 y19 y20 y21 y22 y23 y24 y25 y26 y27 y28 y29 y30 y31 y32 y33 y34 y35 y36 y37 y38 y39 : TypeId} {q0 q1 q2 q3 q4 q5 q6 q7 q8 q9 q10 q11 q12 q13 q14 q15 q16 q17 q18 q19 q20 q21 q22 q23 q24 q25 q26 q27 q28 q29 q30 q31 q32 q33 q34 q35 q36 q37 q38 q39 : String} {e0 e1 e2 e3 e4 e5 e6 e7 e8 e9 e10 e11 e12 e13 e14 e15 e16 e17 e18 e19 e20 e21 e22 e23 e24 e25 e26 e27 e28 e29 e30 e31 e32 e33 e34 e35 e36 e37 e38 e39 : Array Edge} {r0 r1 r2 r3 r4 r5 : Nat}
variable {r6 r7 r8 r9 r10 r11 r12 r13 r14 : Nat}
variable {y40 y41 y42 y43 y44 y45 y46 y47 y48 y49 y50 y51 y52 y53 y54 : TypeId} {q40 q41 q42 q43 q44 q45 q46 q47 q48 q49 q50 q51 q52 q53 q54 : String} {e40 e41 e42 e43 e44 e45 e46 e47 e48 e49 e50 e51 e52 e53 e54 : Array Edge}
variable {E : REnv} {m mB sS k0 i I x y ys aS iS lS vS t1 t2 t3 t4 t5 t6 t7 t8 t9 t10 t11 t12 w1' w2' w3' w4' w5' u1 u2 u3 u4 u5 v1 v2 v3 v4 b1 b2 ug uo uc ui n1 n2 n3 n4 n5 n6 n7 un1 un2 : Nat} {fs sub : List Fld} {pre : S → Prop} {c body cl : Code} {us us2 us3 : Array TypeId} {fn : FuncId} {T ty ti idx ua : Nat} {a1 a2 a3 a4 a5 : Int} {of : K} {z : Value}
variable {z4 z5 : TypeId} {p4 p5 : String} {j4 j5 : Array Edge}
theorem wl_lit0g {ops : Array Oper} {Q : Exit → Act → World → Prop} {a : Act} {w : World} {rest : List Oper} {d : Option Nat} {tt : TypeId} {pos : String} {af : Array Edge} {e sz : Nat} (ht : (Tryz.prog).underlying ty = some (.slice e)) (hs : sizeB Tryz.prog e sz = true) (hz : zeroB Tryz.prog e z) (h0 : 0 < sz)
    (h : ∀ w', Chg (fun _ => False) w w' → WL Tryz.prog ops Q rest (a.put d (.slice (some ⟨w.heap.size, 0, none⟩) 0 0)) w') :
    WL Tryz.prog ops Q (⟨d, .buildSlice ty 0 #[], tt, pos, af, none⟩ :: rest) a w := by
  have hr := run_buildSlice (P := Tryz.prog) (w := w) (t := ty) (e := e) (sz := sz) (z := z) ht hs hz [] (by intro v hv; cases hv) (by simp) h0
  simp only [List.length_nil, List.zipIdx_nil, List.map_nil, List.flatMap_nil] at hr
  exact zaL rfl (v := .slice (some ⟨w.heap.size, 0, none⟩) 0 0) (w' := w.alloc (.cells #[] e)) (by simp only [execOp, List.map_toArray, List.map_nil, Sem.run_bind, hr]; rfl) (h _ (Chg.alloc _ _ _))
theorem roomB_out {t n : Nat} (h : roomB Tryz.prog t n = true) : ∃ e, (Tryz.prog).underlying t = some (.slice e) ∧ sizeB Tryz.prog e n = true ∧ 0 < n := by
  unfold roomB at h
  split at h
  · rename_i e he
    refine ⟨e, he, ?_⟩
    split at h
    · rename_i i hi
      simp only [Bool.and_eq_true, beq_iff_eq, decide_eq_true_eq] at h
      exact ⟨by simp [sizeB, hi, h.1.1], h.2⟩
    · cases h
  · cases h
theorem rf_listN (hf : fs[i]? = some (.mk .list a1 a2 a3 a4 a5 of sub))
    (hB2 : (decide (0 ≤ a3) && roomB Tryz.prog ty (eszR E of sub) && intTB Tryz.prog ti && sliceB Tryz.prog ty (eSz Tryz.prog ty) && decide (6 < E.N) && decide (fsz E.fl (.mk .list a1 a2 a3 a4 a5 of sub) = 1) && zbi Tryz.prog T idx (k0 + foff E.fl fs i) 1 && sizeB Tryz.prog ty 1 && scalB Tryz.prog ty) = true)
    (hz1 : ∀ e, (Tryz.prog).underlying ty = some (.slice e) → zeroB Tryz.prog e z) (hz2 : z.cells.size = eszR E of sub) (hbody : ElC E (iS + 1) aS iS (eszR E of sub) (oneR E of sub) (repR E of sub) z.cells.toList body)
    (hOk : zaT Tryz.prog 69) (hCo : zaT Tryz.prog 70) (hl : RnC E lS lS cl)
    (hS : (rsl E m [w1', w2', w3', w4', vS, w5', aS, lS] [sS, 7] && (decide (aS < lS) && decide (aS ≠ 6) && decide (m ≤ lS)) && rsl E iS [t1, t2, t3] [7, aS, lS] && rsl E iS [t4, t5] [aS, lS] && rsl E iS [t6, t7, t8, t9, t10] [aS, lS] &&
      rsl E (iS + 1) [u1, u2, u3, u4, u5] [7, aS, iS, lS] && rsl E iS [iS] [aS, lS] && rsl E m [t11, vS] [] && rsl E m [v1, v2, v3, v4] [sS, 7] && [v1, v2, v3, v4].all (fun t => decide (t ≠ vS)) && rsl E m [aS] [] && (decide (m ≤ iS) && decide (aS ≠ lS)) &&
      rsl E iS [n1, n2, n3, n4, n5, n6, n7] [8, aS, lS]) = true) :
    RdC E m sS k0 fs (i + 1) (Fresh fs i) (semSet i (decF E.flex E.ver (.mk .list a1 a2 a3 a4 a5 of sub)))
      (.seq (.region r10 #[⟨some w1', .move (.tmp sS), y0, q0, e0, none⟩, ⟨some w2', .nilCheck (.tmp w1'), y1, q1, e1, none⟩, ⟨some w3', .fieldAddr T (.tmp w2') idx, y2, q2, e2, none⟩, ⟨some w4', .load ty (.tmp w3'), y3, q3, e3, none⟩, ⟨some vS, .assign (.tmp w4'), y4, q4, e4, none⟩] false)
        (.seq (.region r11 #[⟨some w5', .move (.tmp vS), y5, q5, e5, none⟩, ⟨some aS, .assign (.tmp w5'), y6, q6, e6, none⟩] false)
          (.seq (.region r12 #[⟨some lS, .assign (.const (.int .i32 0)), y7, q7, e7, none⟩] false) (.seq cl
      (.seq (.seq (.region r13 #[⟨some n1, .move (.tmp 8), y8, q8, e8, none⟩, ⟨some n2, .binOp .lss un1 (.tmp n1) (.const (.int .i16 a3)) un1, y9, q9, e9, none⟩, ⟨some n3, .move (.tmp n2), y10, q10, e10, none⟩, ⟨some n4, .move (.tmp lS), z4, p4, j4, some (2, false)⟩, ⟨some n5, .binOp .eql un2 (.tmp n4) (.const (.int .i32 0)) un2, z5, p5, j5, some (2, false)⟩, ⟨some n6, .pick (.tmp n3) (.const (.bool true)) (.tmp n5), y11, q11, e11, none⟩] false)
        (.cond (.tmp n6) (.region r14 #[⟨some n7, .buildSlice ty 0 #[], y12, q12, e12, none⟩, ⟨some aS, .assign (.tmp n7), y13, q13, e13, none⟩] false) .skip))
      (.seq (.seq (.region r0 #[⟨some t1, .call { callee := .value (.func 69), args := #[.tmp 7], argTypes := us }, y14, q14, e14, none⟩, ⟨some t2, .unOp .not uo (.tmp t1), y15, q15, e15, none⟩] false)
        (.cond (.tmp t2) (.seq (.region r1 #[⟨some t3, .call { callee := .value (.func 70), args := #[.tmp 7], argTypes := us2 }, y16, q16, e16, none⟩, ⟨some 6, .assign (.tmp t3), y17, q17, e17, none⟩] false) .ret) .skip))
      (.seq (.region r2 #[⟨some t4, .move (.tmp aS), y18, q18, e18, none⟩, ⟨some t5, .slice ty (.tmp t4) none (some (.const (.int .i64 0))) none, y19, q19, e19, none⟩, ⟨some aS, .assign (.tmp t5), y20, q20, e20, none⟩] false)
      (.seq (.seq (.region r3 #[⟨some t6, .move (.tmp lS), y21, q21, e21, none⟩, ⟨some t7, .binOp .gtr ug (.tmp t6) (.const (.int .i32 0)) ug, y22, q22, e22, none⟩] false)
          (.cond (.tmp t7) (.region r4 #[⟨some t8, .move (.tmp aS), y23, q23, e23, none⟩, ⟨some t9, .move (.tmp lS), y24, q24, e24, none⟩, ⟨some t10, .call { callee := .builtin .append, args := #[.tmp t8, .tmp t9], argTypes := #[ty, ti] }, y25, q25, e25, none⟩, ⟨some aS, .assign (.tmp t10), y26, q26, e26, none⟩] false) .skip))
      (.seq (.seq (.region r5 #[⟨some iS, .assign (.const (.int .i32 0)), y27, q27, e27, none⟩] false) (.block b1 (.loop (.seq (.seq (.region r6 #[⟨some u1, .move (.tmp iS), y28, q28, e28, none⟩, ⟨some u2, .move (.tmp lS), y29, q29, e29, none⟩, ⟨some u3, .binOp .lss ua (.tmp u1) (.tmp u2) ua, y30, q30, e30, none⟩] false) (.cond (.tmp u3) .skip (.exit b1)))
          (.seq (.block b2 body) (.region r7 #[⟨some u4, .move (.tmp iS), y31, q31, e31, none⟩, ⟨some u5, .binOp .add ua (.tmp u4) (.const (.int .i32 1)) ua, y32, q32, e32, none⟩, ⟨some iS, .assign (.tmp u5), y33, q33, e33, none⟩] false))))))
        (.seq (.region r8 #[⟨some t11, .move (.tmp aS), y34, q34, e34, none⟩, ⟨some vS, .assign (.tmp t11), y35, q35, e35, none⟩] false) (.region r9 #[⟨some v1, .move (.tmp sS), y36, q36, e36, none⟩, ⟨some v2, .move (.tmp vS), y37, q37, e37, none⟩, ⟨some v3, .nilCheck (.tmp v1), y38, q38, e38, none⟩, ⟨some v4, .fieldAddr T (.tmp v3) idx, y39, q39, e39, none⟩, ⟨none, .store ty (.tmp v4) (.tmp v2), y40, q40, e40, none⟩] false)))))))))))  := by
  simp only [Bool.and_eq_true] at hB2 hS
  obtain ⟨⟨⟨⟨⟨⟨⟨⟨c1, c2⟩, c3⟩, c4⟩, c5⟩, c6⟩, c7⟩, c8⟩, c9⟩ := hB2
  obtain ⟨⟨⟨⟨⟨⟨⟨⟨⟨⟨⟨⟨p1, p2⟩, p3⟩, p4⟩, p5⟩, p6⟩, p7⟩, p8⟩, p9⟩, p10⟩, p11⟩, p12⟩, p13⟩ := hS
  have a3n : 0 ≤ a3 := of_decide_eq_true c1
  obtain ⟨e, he, hse, h0e⟩ := roomB_out c2
  obtain ⟨hmi, hw, hr, hnd⟩ := zaU p13
  simp only [List.mem_cons, List.not_mem_nil, or_false, forall_eq_or_imp, forall_eq, List.nodup_cons, not_or, List.nodup_nil, and_true, not_false_eq_true] at hw hnd hr
  obtain ⟨hm11, hw11, _, _⟩ := zaU p11
  simp only [List.mem_cons, List.not_mem_nil, or_false, forall_eq] at hw11
  have p12' := p12
  simp only [Bool.and_eq_true, decide_eq_true_eq] at p12'
  refine rf_listX hf (by simp only [Bool.and_eq_true]; exact ⟨⟨c6, c7⟩, c9⟩) hl p1 (by simp only [Bool.and_eq_true] at p2 ⊢; exact p2) ?_
  intro a0 a w0 w O R B p st s L hB hP hk hc hrs hll gl hL ga
  have hN : a.tmps.size = E.N := hk.size.trans hB.ok.1
  have g8 : get a 8 = .int .i16 E.ver := (hk.slot 8 ⟨hm11.1, by decide⟩).trans hB.ok.2.2.2.1
  have up : ∀ {a a' : Act}, zaz (RS iS) a a' → zaz (RS m) a a' := fun h => h.mono fun t ht => ⟨by have := ht.1; omega, ht.2⟩
  refine wp_seq_k fun K hK => ?_
  have tail : ∀ {a' : Act} {w' : World} {oa : Option Addr}, zaz (RS m) a0 a' → Chg (fun k => k = R) w0 w' → RdS w' (fun g => ¬ O g) R ((st.bind (rLen E.flex)).map (·.2)) → get a' lS = .int .i32 L → get a' aS = .slice oa 0 0 → (∀ y, st.bind (rLen E.flex) = some y → (if 0 < y.1 then false else oa.isNone) = nilArr a3 E.ver y.1) → K a' w' := by
    intro a' w' oa hk' hc' hrs' gl' ga' hn
    refine hK _ _ ?_
    exact rl_rest hf (by simp only [Bool.and_eq_true]; exact ⟨⟨⟨c2, c3⟩, c4⟩, c5⟩) (by simp only [Bool.and_eq_true]; exact ⟨⟨c6, c7⟩, c8⟩) hz1 hz2 hOk hCo hbody p3 p4 p5 p6 p7 p8 p9 p10 p11 (by simp only [Bool.and_eq_true]; exact p12) hB hP hk' hc' hrs' hll gl' hL ga' hn
  refine wp_seq_k fun K1 hK1 => ?_
  have fill : ∀ (yy yz : TypeId) (qq qz : String) (ee ez : Array Edge) (a' : Act), zaz (RS iS) a a' → get a' lS = .int .i32 L → (∀ y, st.bind (rLen E.flex) = some y → nilArr a3 E.ver y.1 = false) → get a' n6 = .bool true → (Code.cond (.tmp n6) (.region r14 #[⟨some n7, .buildSlice ty 0 #[], yy, qq, ee, none⟩, ⟨some aS, .assign (.tmp n7), yz, qz, ez, none⟩] false) .skip).wp Tryz.prog (Exit.then K (RdQ E m k0 fs (i + 1) (semSet i (decF E.flex E.ver (.mk .list a1 a2 a3 a4 a5 of sub))) a0 w0 O R B p st s)) a' w := by
    intro yy yz qq qz ee ez a' hk' gl' hn' g6
    have hN' : a'.tmps.size = E.N := hk'.size.trans hN
    refine wp_cond_true (by rw [zac, g6]) ?_
    refine zah ?_
    refine wl_lit0g he hse (hz1 e he) h0e ?_
    intro w' hcw
    refine zam ?_
    rw [zac, zaa (by rw [hN']; exact hw.2.2.2.2.2.2.2.1)]
    refine zae ?_
    have hkf : zaz (RS m) a' ((a'.put (some n7) (.slice (some ⟨w.heap.size, 0, none⟩) 0 0)).put (some aS) (.slice (some ⟨w.heap.size, 0, none⟩) 0 0)) := ((zaz.refl _ _).put (fun h => hw.2.2.2.2.2.2.1 ⟨by have := h.1; have := p12'.1; omega, h.2⟩) _).put hw11.1 _
    refine tail ((hk.trans (up hk')).trans hkf) (hc.trans hcw fun _ _ h => h.elim) (hrs.stay (zbr.of hcw fun _ _ _ h => h) (hcw.block R hrs.lt fun h => h)) ?_ (zaa (by rw [zad, hN']; exact hw11.2.1)) ?_
    · rw [zab p12'.2, zab (fun e => hw.2.2.2.2.2.2.1 (by rw [e]; exact hr.2.2))]; exact gl'
    · intro y hy
      rw [hn' y hy]
      simp
  have nx : ∀ {t : Nat}, ¬ RS iS t → ¬ t = lS ∧ ¬ t = aS := fun h => ⟨fun e => h (by rw [e]; exact hr.2.2), fun e => h (by rw [e]; exact hr.2.1)⟩
  refine zah ?_
  refine zat ?_
  rw [zac, g8]
  have x1 : get (a.put (some n1) (.int .i16 E.ver)) n1 = .int .i16 E.ver := zaa (by rw [hN]; exact hw.1.2.1)
  refine zaN (by simp only [dyn, zac, zag, x1]; rfl) rfl ?_
  simp only [pv, zac, zag, x1, cmp2]
  refine zat ?_
  rw [zac, zaa (by rw [zad, hN]; exact hw.2.1.2.1)]
  obtain ⟨b1', hb1'⟩ : ∃ b1' : Act, b1' = ((a.put (some n1) (.int .i16 E.ver)).put (some n2) (.bool (decide (E.ver < a3)))).put (some n3) (.bool (decide (E.ver < a3))) := ⟨_, rfl⟩
  rw [← hb1']
  have hNb : b1'.tmps.size = E.N := by rw [hb1']; simp only [zad, hN]
  have hkb : zaz (RS iS) a b1' := by rw [hb1']; exact (((zaz.refl _ _).put hw.1.1 _).put hw.2.1.1 _).put hw.2.2.1.1 _
  have gb3 : get b1' n3 = .bool (decide (E.ver < a3)) := by rw [hb1']; exact zaa (by simp only [zad, hN]; exact hw.2.2.1.2.1)
  have glb : get b1' lS = .int .i32 L := by rw [hb1', zab (nx hw.2.2.1.1).1, zab (nx hw.2.1.1).1, zab (nx hw.1.1).1]; exact gl
  have gab : get b1' aS = .slice none 0 0 := by rw [hb1', zab (nx hw.2.2.1.1).2, zab (nx hw.2.1.1).2, zab (nx hw.1.1).2]; exact ga
  clear hb1' x1
  by_cases hv : E.ver < a3
  · rw [decide_eq_true hv] at gb3
    refine zau (t := n3) rfl rfl gb3 ?_
    refine zau (t := n3) rfl rfl (by rw [zab (fun e => hnd.2.2.1.1 e.symm)]; exact gb3) ?_
    refine zaq (by rw [zac, zab (fun e => hnd.2.2.1.2.1 e.symm), zab (fun e => hnd.2.2.1.1 e.symm)]; exact gb3) ?_
    rw [zag]
    refine zae (hK1 _ _ ?_)
    refine fill _ _ _ _ _ _ _ ?_ ?_ (fun y _ => ?_) ?_
    · exact ((hkb.put hw.2.2.2.1.1 _).put hw.2.2.2.2.1.1 _).put hw.2.2.2.2.2.1.1 _
    · rw [zab (nx hw.2.2.2.2.2.1.1).1, zab (nx hw.2.2.2.2.1.1).1, zab (nx hw.2.2.2.1.1).1]; exact glb
    · unfold nilArr
      rw [if_neg (by omega), decide_eq_false (show ¬ a3 ≤ E.ver by omega), Bool.and_false]
    · exact zaa (by simp only [zad, hNb]; exact hw.2.2.2.2.2.1.2.1)
  · rw [decide_eq_false hv] at gb3
    refine zao (t := n3) rfl rfl gb3 ?_
    refine zat ?_
    rw [zac, glb]
    have x4 : get (b1'.put (some n4) (.int .i32 L)) n4 = .int .i32 L := zaa (by rw [hNb]; exact hw.2.2.2.1.2.1)
    refine zao (t := n3) rfl rfl (by rw [zab (fun e => hnd.2.2.1.1 e.symm)]; exact gb3) ?_
    refine zaN (by simp only [dyn, zac, zag, x4]; rfl) rfl ?_
    simp only [pv, zac, zag, x4, cmp2]
    refine zap (by rw [zac, zab (fun e => hnd.2.2.1.2.1 e.symm), zab (fun e => hnd.2.2.1.1 e.symm)]; exact gb3) ?_
    rw [zac, zaa (by rw [zad, hNb]; exact hw.2.2.2.2.1.2.1)]
    have hkc : ∀ v, zaz (RS iS) a (((b1'.put (some n4) (.int .i32 L)).put (some n5) v).put (some n6) v) := fun v => ((hkb.put hw.2.2.2.1.1 _).put hw.2.2.2.2.1.1 _).put hw.2.2.2.2.2.1.1 _
    have glc : ∀ v, get (((b1'.put (some n4) (.int .i32 L)).put (some n5) v).put (some n6) v) lS = .int .i32 L := fun v => by rw [zab (nx hw.2.2.2.2.2.1.1).1, zab (nx hw.2.2.2.2.1.1).1, zab (nx hw.2.2.2.1.1).1]; exact glb
    have gc6 : ∀ v, get (((b1'.put (some n4) (.int .i32 L)).put (some n5) v).put (some n6) v) n6 = v := fun v => zaa (by simp only [zad, hNb]; exact hw.2.2.2.2.2.1.2.1)
    refine zae (hK1 _ _ ?_)
    by_cases hL0 : L = 0
    · refine fill _ _ _ _ _ _ _ ?_ ?_ (fun y hy => ?_) ?_
      · exact hkc _
      · exact glc _
      · rw [← hL y hy, hL0]
        unfold nilArr
        rw [if_neg (by omega)]
        rfl
      · rw [gc6, hL0]; rfl
    · refine wp_cond_false (by rw [zac, gc6, beq_eq_false_iff_ne.2 hL0]) ?_
      refine wp_skip ?_
      refine tail (oa := none) (hk.trans (up (hkc _))) hc hrs (glc _) (by rw [zab (nx hw.2.2.2.2.2.1.1).2, zab (nx hw.2.2.2.2.1.1).2, zab (nx hw.2.2.2.1.1).2]; exact gab) (fun y hy => ?_)
      rw [← hL y hy]
      have e1 : nilArr a3 E.ver L = decide (L < 0) := by
        unfold nilArr
        rw [if_neg (by omega), decide_eq_true (show a3 ≤ E.ver by omega), Bool.and_true]
      rw [e1]
      by_cases hp : 0 < L
      · rw [if_pos hp, decide_eq_false (by omega)]
      · rw [if_neg hp, decide_eq_true (by omega)]; rfl
end
end Go.Proofs.YtkodgaelpllhgabGreatDoorR
namespace Go.Proofs.YtkodgaelpllhgabGreatDoorR
set_option linter.all false
open Go.RowKit
set_option maxRecDepth 10000
set_option maxHeartbeats 2000000
section
variable {y0 y1 y2 y3 y4 y5 y6 y7 y8 y9 y10 y11 y12 y13 y14 y15 y16 y17 y18 y19 y20 y21 y22 y23 y24 y25 y26 y27 y28 y29 y30 y31 y32 y33 y34 y35 y36 y37 y38 y39 : TypeId} {q0 q1 q2 q3 q4 q5 q6 q7 q8 q9 q10 q11 q12 q13 q14 q15 q16 q17 q18 q19 q20 q21 q22 q23 q24 q25 q26 q27 q28 q29 q30 q31 q32 q33 q34 q35 q36 q37 q38 q39 : String} {e0 e1 e2 e3 e4 e5 e6 e7 e8 e9 e10 e11 e12 e13 e14 e15 e16 e17 e18 e19 e20 e21 e22 e23 e24 e25 e26 e27 e28 e29 e30 e31 e32 e33 e34 e35 e36 e37 e38 e39 : Array Edge} {r0 r1 r2 r3 r4 r5 : Nat}
variable {r6 r7 r8 r9 r10 r11 r12 : Nat}
variable {E : REnv} {m mB sS k0 i I x y ys t1 t2 t3 t4 t5 t6 : Nat} {fs sub : List Fld} {c : Code} {us : Array TypeId} {fn : FuncId} {T idx : Nat} {a1 a2 a3 a4 a5 : Int} {of : K}
theorem wp_defv {a : Act} {w : World} {b off N : Nat} {t1 t2 t3 t6 x T idx k n : Nat} {Q : Exit → Act → World → Prop} (hN : a.tmps.size = N) (hD : a.defers = []) (h0 : get a 0 = .pointer (some ⟨b, off, none⟩))
    (hF : (zbi Tryz.prog T idx k n && decide ((0 :: [t1, t2, t3, x, t6]).Nodup) && [0, t1, t2, t3, x, t6].all (fun t => decide (t < N))) = true)
    (h : ∀ a', a'.tmps.size = N → a'.defers = [] → get a' 0 = .pointer (some ⟨b, off, none⟩) → Q .normal a' w) :
    (Code.seq (.region r0 #[⟨some t1, .move (.tmp 0), y0, q0, e0, none⟩, ⟨some t2, .nilCheck (.tmp t1), y1, q1, e1, none⟩, ⟨some t3, .fieldAddr T (.tmp t2) idx, y2, q2, e2, none⟩, ⟨some x, .assign (.tmp t3), y3, q3, e3, none⟩] false) (.region r1 #[⟨some t6, .move (.tmp x), y4, q4, e4, none⟩] false)).wp Tryz.prog Q a w := by
  simp only [Bool.and_eq_true, decide_eq_true_eq, List.all_eq_true] at hF
  obtain ⟨⟨f1, hnd⟩, hlt⟩ := hF
  simp only [List.nodup_cons, List.mem_cons, List.not_mem_nil, or_false, not_or, List.nodup_nil, and_true, not_false_eq_true, forall_eq_or_imp, forall_eq] at hnd hlt
  refine wp_seq_k fun K hK => ?_
  refine zah ?_
  refine zat ?_
  refine zaQ (p := ⟨b, off, none⟩) (by simp only [zac, zaa, zab, zaf, ne_eq, zad, hN, hnd, hlt, not_false_eq_true, h0]) ?_
  refine zaP (b := b) (o := off) f1 (by simp only [zac, zaa, zab, zaf, ne_eq, zad, hN, hnd, hlt, not_false_eq_true, h0]) ?_
  refine zam ?_
  refine zae (hK _ _ ?_)
  clear hK K
  refine zah ?_
  refine zat ?_
  refine zae (h _ (by simp only [zad, hN]) (by simp only [zai, hD]) ?_)
  simp only [zab, zaf, ne_eq, hnd, not_false_eq_true, h0]
end
section
variable {y0 y1 y2 y3 y4 y5 y6 y7 y8 y9 y10 y11 y12 y13 y14 y15 y16 y17 y18 y19 y20 y21 y22 y23 y24 y25 y26 y27 y28 y29 y30 y31 y32 y33 y34 y35 y36 y37 y38 y39 : TypeId} {q0 q1 q2 q3 q4 q5 q6 q7 q8 q9 q10 q11 q12 q13 q14 q15 q16 q17 q18 q19 q20 q21 q22 q23 q24 q25 q26 q27 q28 q29 q30 q31 q32 q33 q34 q35 q36 q37 q38 q39 : String} {e0 e1 e2 e3 e4 e5 e6 e7 e8 e9 e10 e11 e12 e13 e14 e15 e16 e17 e18 e19 e20 e21 e22 e23 e24 e25 e26 e27 e28 e29 e30 e31 e32 e33 e34 e35 e36 e37 e38 e39 : Array Edge} {r0 r1 r2 r3 r4 r5 : Nat}
variable {E : REnv} {m x t1 : Nat} {us : Array TypeId} {a1 a2 a3 a4 a5 : Int} {of : K} {sub : List Fld}
end
end Go.Proofs.YtkodgaelpllhgabGreatDoorR
namespace Go.Proofs.YtkodgaelpllhgabGreatDoorR
set_option linter.all false
open Go.RowKit
set_option maxRecDepth 10000
set_option maxHeartbeats 1000000
section
variable {y0 y1 y2 y3 y4 y5 y6 y7 y8 y9 y10 y11 y12 y13 y14 y15 y16 y17 y18 y19 y20 y21 y22 y23 y24 y25 y26 y27 y28 y29 y30 y31 y32 y33 y34 y35 y36 y37 y38 y39 : TypeId} {q0 q1 q2 q3 q4 q5 q6 q7 q8 q9 q10 q11 q12 q13 q14 q15 q16 q17 q18 q19 q20 q21 q22 q23 q24 q25 q26 q27 q28 q29 q30 q31 q32 q33 q34 q35 q36 q37 q38 q39 : String} {e0 e1 e2 e3 e4 e5 e6 e7 e8 e9 e10 e11 e12 e13 e14 e15 e16 e17 e18 e19 e20 e21 e22 e23 e24 e25 e26 e27 e28 e29 e30 e31 e32 e33 e34 e35 e36 e37 e38 e39 : Array Edge} {r0 r1 r2 r3 r4 r5 : Nat}
variable {E : REnv} {m x y t t1 t2 : Nat} {us : Array TypeId} {fn : FuncId} {sem : Bs → Option (Bs × Bs)} {c ca cb cu : Code} {a1 a2 a3 a4 a5 : Int} {of : K} {sub : List Fld}
end
end Go.Proofs.YtkodgaelpllhgabGreatDoorR
namespace Go.Proofs.YtkodgaelpllhgabGreatDoorR
set_option linter.all false
open Go.RowKit
set_option maxRecDepth 10000
set_option maxHeartbeats 2000000
theorem rd_set_same {α : Type} {l : List α} {i : Nat} {x : α} (h : l[i]? = some x) : l.set i x = l := by
  apply List.ext_getElem?
  intro j
  rw [List.getElem?_set]
  by_cases e : i = j
  · subst e
    rw [if_pos rfl, h]
    have : i < l.length := (List.getElem?_eq_some_iff.1 h).1
    rw [if_pos this]
  · rw [if_neg e]
section
variable {y0 y1 y2 y3 y4 y5 y6 y7 y8 y9 y10 y11 y12 y13 y14 y15 y16 y17 y18 y19 y20 y21 y22 y23 y24 y25 y26 y27 y28 y29 y30 y31 y32 y33 y34 y35 y36 y37 y38 y39 : TypeId} {q0 q1 q2 q3 q4 q5 q6 q7 q8 q9 q10 q11 q12 q13 q14 q15 q16 q17 q18 q19 q20 q21 q22 q23 q24 q25 q26 q27 q28 q29 q30 q31 q32 q33 q34 q35 q36 q37 q38 q39 : String} {e0 e1 e2 e3 e4 e5 e6 e7 e8 e9 e10 e11 e12 e13 e14 e15 e16 e17 e18 e19 e20 e21 e22 e23 e24 e25 e26 e27 e28 e29 e30 e31 e32 e33 e34 e35 e36 e37 e38 e39 : Array Edge} {r0 r1 r2 r3 r4 r5 : Nat}
variable {r6 r7 r8 r9 r10 r11 r12 : Nat} {z5 : TypeId} {p5 : String} {j5 : Array Edge}
variable {E : REnv} {m sS k0 i x y ys t1 t2 t3 t4 t5 t6 u u1 u2 u3 u4 v1 v2 v3 v4 v5 v6 v7 : Nat} {fs sub : List Fld} {c : Code} {us us2 us3 : Array TypeId} {fn : FuncId} {T T2 idx tp : Nat} {a1 a2 a3 a4 a5 : Int} {of : K}
theorem rdF_ptr (h : 0 ≤ a3) (bs : Bs) : decF E.flex E.ver (.mk .struct a1 a2 a3 a4 a5 of sub) bs = (rS 1 bs).bind fun p => if p.1 = -1 then some (.pnil, p.2) else (zbl E.flex E.ver sub p.2).map fun x => (.ptr x.1.d, x.2) := by
  unfold decF
  dsimp only
  rw [if_neg (by omega)]
  congr 1
  funext p
  split
  · rfl
  · unfold zbl
    rw [Option.map_map]; rfl
theorem rf_ptr {zc dc : List Value} (hf : fs[i]? = some (.mk .struct a1 a2 a3 a4 a5 of sub)) (hF : (decide (0 ≤ a3) && zbi Tryz.prog T idx (k0 + foff E.fl fs i) 1 && sizeB Tryz.prog tp 1 && scalB Tryz.prog tp) = true) (hen : zaT Tryz.prog fn)
    (hz0 : zeroB Tryz.prog T2 (zaR zc)) (hdef : DefC fn (zaR zc).cells.toList dc) (hz : (decide ((zaR zc).cells.toList.length = ssz E.fl sub) && decide (dc.length = ssz E.fl sub) && repSB E.fl sub (dfltL sub) dc) = true)
    (h : RdC E (ys + 1) ys 0 sub sub.length (Fresh sub 0) (semL E sub 0 (tlP E sub)) c)
    (s1 : rsl E m [t1, x, t2, t3, t4, t5, t6, u1, u2, u3, u4, v1, v2, v3, v4, y, v5, v6, v7, ys] [sS, 7] = true) (s2 : decide (m ≤ ys + 1) = true) (s3 : rsl E (ys + 1) [] [ys] = true) :
    RdC E m sS k0 fs (i + 1) (Fresh fs i) (semSet i (decF E.flex E.ver (.mk .struct a1 a2 a3 a4 a5 of sub)))
      (.seq (.region r0 #[⟨some t1, .call { callee := .value (.func 81), args := #[.tmp 7], argTypes := us }, y0, q0, e0, none⟩, ⟨some x, .assign (.tmp t1), y1, q1, e1, none⟩] false)
        (.seq (.region r1 #[⟨some t2, .move (.tmp x), y2, q2, e2, none⟩, ⟨some t3, .binOp .neq u (.tmp t2) (.const (.int .i8 (-1))) u, y3, q3, e3, none⟩, ⟨some t4, .move (.tmp t3), y4, q4, e4, none⟩, ⟨some t5, .call { callee := .value (.func 69), args := #[.tmp 7], argTypes := us2 }, z5, p5, j5, some (2, true)⟩, ⟨some t6, .pick (.tmp t4) (.tmp t5) (.const (.bool false)), y5, q5, e5, none⟩] false)
          (.cond (.tmp t6)
            (.seq (.region r2 #[⟨some u1, .move (.tmp sS), y6, q6, e6, none⟩, ⟨some u2, .alloc T2, y7, q7, e7, none⟩, ⟨some u3, .nilCheck (.tmp u1), y8, q8, e8, none⟩, ⟨some u4, .fieldAddr T (.tmp u3) idx, y9, q9, e9, none⟩, ⟨none, .store tp (.tmp u4) (.tmp u2), y10, q10, e10, none⟩] false)
              (.seq (.region r3 #[⟨some v1, .move (.tmp sS), y11, q11, e11, none⟩, ⟨some v2, .nilCheck (.tmp v1), y12, q12, e12, none⟩, ⟨some v3, .fieldAddr T (.tmp v2) idx, y13, q13, e13, none⟩, ⟨some v4, .load tp (.tmp v3), y14, q14, e14, none⟩, ⟨some y, .assign (.tmp v4), y15, q15, e15, none⟩] false)
                (.seq (.region r4 #[⟨some v5, .move (.tmp y), y16, q16, e16, none⟩, ⟨some v6, .call { callee := .value (.func fn), args := #[.tmp v5], argTypes := us3 }, y17, q17, e17, none⟩] false)
                  (.seq (.region r5 #[⟨some v7, .move (.tmp y), y18, q18, e18, none⟩, ⟨some ys, .assign (.tmp v7), y19, q19, e19, none⟩] false) c))))
            .skip))) := by
  simp only [Bool.and_eq_true, decide_eq_true_eq] at hF s2 hz
  obtain ⟨⟨⟨f1, f2⟩, f3⟩, f4⟩ := hF
  obtain ⟨⟨z1, z2⟩, z3⟩ := hz
  obtain ⟨hm, hw, hr, hnd⟩ := zaU s1
  have hnr := nodup_rev hnd
  simp only [List.reverse_cons, List.reverse_nil, List.nil_append, List.cons_append, List.mem_cons, List.not_mem_nil, or_false, List.nodup_cons, not_or, List.nodup_nil, and_true, not_false_eq_true] at hnr
  simp only [List.mem_cons, List.not_mem_nil, or_false, forall_eq_or_imp, forall_eq, List.nodup_cons, not_or, List.nodup_nil, and_true, not_false_eq_true] at hw hnd hr
  intro a w O R B p st s hB hP hpre
  have hN := hB.ok.1
  have ev : ∀ {d t : Nat} {a : Act} {v : Value}, d < a.tmps.size → get (a.put (some d) v) t = if d = t then v else get a t := fun h => get_put h
  have n7 : ∀ t, m ≤ t → ¬ t = 7 ∧ ¬ t = sS := fun t ht => by have := hr.2.1; have := hr.1.1; omega
  have hsd : s.ds[i]? = some .pnil := by
    have := hpre i _ (Nat.le_refl _) hf
    rw [this]
    unfold dfltF
    dsimp only
    rw [if_neg (by omega)]
  have hdec : decF E.flex E.ver (.mk .struct a1 a2 a3 a4 a5 of sub) = fun bs => (rS 1 bs).bind fun p => if p.1 = -1 then some (.pnil, p.2) else (zbl E.flex E.ver sub p.2).map fun x => (.ptr x.1.d, x.2) := funext fun bs => rdF_ptr f1 bs
  refine wp_seq_k fun K hK => ?_
  refine zah ?_
  refine wl_rd (fun args w => Tryz.call81 args w) Int8_c (by simp only [List.map_toArray, List.map_cons, List.map_nil, zac, hB.rd]) hB.rs (fun h => h hB.oR) hB.new ?_
  intro v w1 hq
  obtain ⟨x0, ho, k2⟩ := hq.val
  cases (ho : v = .int .i8 x0)
  refine zam ?_
  rw [zac, zaa (by rw [hN]; exact hw.1.2.1)]
  refine zae (hK _ _ ?_)
  clear hK K
  obtain ⟨b1, hb1⟩ : ∃ b1, b1 = (a.put (some t1) (.int .i8 x0)).put (some x) (.int .i8 x0) := ⟨_, rfl⟩
  rw [← hb1]
  have hk1 : zaz (RS m) a b1 := by rw [hb1]; exact ((zaz.refl _ _).put hw.1.1 _).put hw.2.1.1 _
  have g1 : get b1 x = .int .i8 x0 := by rw [hb1]; exact zaa (by rw [zad, hN]; exact hw.2.1.2.1)
  clear hb1
  have hN1 : b1.tmps.size = E.N := hk1.size.trans hN
  have hl1 : stLen ((st.bind (rS 1)).map (·.2)) ≤ stLen st := (less_rS 1).st st
  have hB1 : RB E b1 w1 O R ((st.bind (rS 1)).map (·.2)) := hB.next hm hk1 hq.chg (fun k h => by rw [h]; exact hB.oR) hq.rd hl1
  have hat1 : At w1 (fun g => ¬ O g) E.fl fs s B (p + k0) := hP.at_.stay (zbr.of hq.chg fun k hk _ e => hk (e ▸ hB.oR)) (hq.chg.block B (by obtain ⟨_, _, hh, _⟩ := hP.at_; exact hh.lt) fun e => hP.ne e.symm)
  have hP1 : RP E sS k0 fs b1 w1 O R B p s := ⟨(hk1.slot _ hr.1).trans hP.pt, hat1, hP.oB, hP.ne⟩
  have rest1 : Rest w w1 B (p + k0) (ssz E.fl fs) := by
    intro cs T' hb'
    exact ⟨cs, hb'.chg hq.chg fun e => hP.ne e.symm, rfl, fun _ _ => rfl⟩
  have none_ : ∀ a', zaz (RS m) b1 a' → (∀ bs q, st = some bs → rS 1 bs = some q → q.1 = -1) → RdQ E m k0 fs (i + 1) (semSet i (decF E.flex E.ver (.mk .struct a1 a2 a3 a4 a5 of sub))) a w O R B p st s .normal a' w1 := by
    intro a' hk' hno
    refine ⟨hk1.trans hk', hq.chg.mono fun _ _ h => .inl h, rest1, _, s, hq.rd, hat1, ?_, hl1, fun _ _ => rfl⟩
    unfold Stp
    cases hst : st with
    | none => rfl
    | some bs =>
      rw [Option.bind_some]
      unfold semSet
      rw [hdec]
      dsimp only
      cases hrs : rS 1 bs with
      | none => simp [hrs]
      | some q =>
        have := hno bs q hst hrs
        simp only [Option.bind_some, if_pos this, Option.map_some, hrs, true_and]
        rw [rd_set_same hsd]
  have kpt : ∀ (e1 e2 e3 e4 e5 : Value), zaz (RS m) b1 (((((b1.put (some t2) e1).put (some t3) e2).put (some t4) e3).put (some t5) e4).put (some t6) e5) := fun e1 e2 e3 e4 e5 => (((((zaz.refl _ _).put hw.2.2.1.1 _).put hw.2.2.2.1.1 _).put hw.2.2.2.2.1.1 _).put hw.2.2.2.2.2.1.1 _).put hw.2.2.2.2.2.2.1.1 _
  refine wp_seq_k fun K hK => ?_
  refine zah ?_
  refine zat ?_
  rw [zac, g1]
  refine wl_neq (by simp only [zac, zag, ev, hN1, hw, if_true]; rfl) ?_
  simp only [zac, zag, ev, zad, hN1, hw, hnd, hnr, if_true, if_false, cmp2]
  refine zat ?_
  simp only [zac, ev, zad, hN1, hw, hnd, hnr, if_true, if_false]
  have g7 : ∀ (e1 e2 e3 : Value), get (((b1.put (some t2) e1).put (some t3) e2).put (some t4) e3) 7 = .pointer (some ⟨R, 0, none⟩) := fun e1 e2 e3 => by
    rw [zab (n7 t4 hw.2.2.2.2.1.2.2).1, zab (n7 t3 hw.2.2.2.1.2.2).1, zab (n7 t2 hw.2.2.1.2.2).1]; exact hB1.rd
  by_cases hx0 : x0 = -1
  · have e1 : (x0 != -1) = false := by simp [hx0]
    rw [e1]
    refine zau (t := t4) rfl rfl (by simp only [ev, zad, hN1, hw, hnd, hnr, if_true, if_false]; rfl) ?_
    refine zap (by simp only [zac, ev, zad, hN1, hw, hnd, hnr, if_true, if_false]) ?_
    rw [zag]
    refine zae (hK _ _ ?_)
    clear hK K
    refine wp_cond_false (by simp only [zac, ev, zad, hN1, hw, hnd, hnr, if_true, if_false]) ?_
    refine wp_skip (none_ _ (kpt _ _ _ _ _) fun bs q hs hh => ?_)
    rw [← k2 q (by rw [hs, Option.bind_some, hh])]; exact hx0
  have e1 : (x0 != -1) = true := by simp [hx0]
  rw [e1]
  refine zao (t := t4) rfl rfl (by simp only [ev, zad, hN1, hw, hnd, hnr, if_true, if_false]) ?_
  refine zaC ok_en (by simp only [List.map_toArray, List.map_cons, List.map_nil, zac, g7]; exact Ok_c hB1.rs) ?_
  rintro _ w1' ⟨rfl, e⟩
  replace e := e.symm
  subst e
  refine zaq (by simp only [zac, ev, zad, hN1, hw, hnd, hnr, if_true, if_false]) ?_
  simp only [zac, ev, zad, hN1, hw, hnd, hnr, if_true, if_false]
  refine zae (hK _ _ ?_)
  clear hK K
  cases hst1 : st.bind (rS 1) with
  | none =>
    refine wp_cond_false (by simp only [zac, ev, zad, hN1, hw, hnd, hnr, if_true, if_false]; rfl) ?_
    refine wp_skip (none_ _ (kpt _ _ _ _ _) fun bs q hs hh => ?_)
    rw [hs, Option.bind_some, hh] at hst1
    cases hst1
  | some q0 =>
  rw [hst1] at hB1 hl1
  simp only [Option.map_some] at hB1 hl1
  have hq0 : x0 = q0.1 := k2 q0 hst1
  refine wp_cond_true (by simp only [zac, ev, zad, hN1, hw, hnd, hnr, if_true, if_false]; rfl) ?_
  obtain ⟨b2, hb2⟩ : ∃ b2, b2 = ((((b1.put (some t2) (.int .i8 x0)).put (some t3) (.bool true)).put (some t4) (.bool true)).put (some t5) (.bool (Option.map (·.2) (some q0)).isSome)).put (some t6) (.bool (Option.map (·.2) (some q0)).isSome) := ⟨_, rfl⟩
  rw [← hb2]
  have hk2 : zaz (RS m) b1 b2 := by rw [hb2]; exact kpt _ _ _ _ _
  clear hb2
  have hN2 : b2.tmps.size = E.N := hk2.size.trans hN1
  have gs : get b2 sS = .pointer (some ⟨B, p, none⟩) := (hk2.slot _ hr.1).trans hP1.pt
  obtain ⟨d, cs, Tb, c1, c2, c3, c4⟩ := hat1.field hf
  have hfs : fsz E.fl (.mk .struct a1 a2 a3 a4 a5 of sub) = 1 := by unfold fsz; dsimp only; rw [if_neg (by omega)]
  rw [hfs] at c3 c4
  have hBl := c2.lt
  refine wp_seq_k fun K hK => ?_
  refine zah ?_
  refine zat ?_
  rw [zac, gs]
  refine zbb hz0 fun w2 hc2 hbn hs2 => ?_
  refine zaQ (p := ⟨B, p, none⟩) (by simp only [zac, ev, zad, hN2, hw, hnd, hnr, if_true, if_false]) ?_
  refine zaP (b := B) (o := p) f2 (by simp only [zac, ev, zad, hN2, hw, hnd, hnr, if_true, if_false]) ?_
  refine za4 (b := B) (o := p + (k0 + foff E.fl fs i)) (n := 1) (v := .pointer (some ⟨w1.heap.size, 0, none⟩)) f3 (by simp only [zac, ev, zad, hN2, hw, hnd, hnr, if_true, if_false]) (by simp only [zac, ev, zad, hN2, hw, hnd, hnr, if_true, if_false]) (c2.chg hc2 fun h => h) rfl (by intro y hy; simp only [Value.cells, List.mem_singleton] at hy; subst hy; rfl) (by omega) fun w3 hb3 hc3 => ?_
  have ecell : (Value.pointer (some ⟨w1.heap.size, 0, none⟩)).cells.toList = [.pointer (some ⟨w1.heap.size, 0, none⟩)] := rfl
  rw [ecell, show p + (k0 + foff E.fl fs i) = p + k0 + foff E.fl fs i by omega] at hb3
  refine zae (hK _ _ ?_)
  clear hK K
  have hbn3 : Blk w3 w1.heap.size (zaR zc).cells.toList T2 := hbn.chg hc3 (by omega)
  have hlc : (p + k0 + foff E.fl fs i) + ([.pointer (some ⟨w1.heap.size, 0, none⟩)] : List Value).length ≤ cs.length := by simpa using c3
  have hcell : (zaA cs (p + k0 + foff E.fl fs i) [.pointer (some ⟨w1.heap.size, 0, none⟩)])[p + (k0 + foff E.fl fs i)]? = some (.pointer (some ⟨w1.heap.size, 0, none⟩)) := by
    have := splc_mid (l := cs) (vs := [.pointer (some ⟨w1.heap.size, 0, none⟩)]) (i := p + k0 + foff E.fl fs i) (k := 0) hlc (by simp)
    rw [show p + (k0 + foff E.fl fs i) = p + k0 + foff E.fl fs i + 0 by omega, this]; rfl
  refine wp_seq_k fun K hK => ?_
  refine zah ?_
  refine zat ?_
  simp only [put_none, zac, ev, zad, hN2, hw, hnd, hnr, if_true, if_false, (n7 u1 hw.2.2.2.2.2.2.2.1.2.2).2, (n7 u2 hw.2.2.2.2.2.2.2.2.1.2.2).2, (n7 u3 hw.2.2.2.2.2.2.2.2.2.1.2.2).2, (n7 u4 hw.2.2.2.2.2.2.2.2.2.2.1.2.2).2, gs]
  refine zaQ (p := ⟨B, p, none⟩) (by simp only [zac, ev, zad, hN2, hw, hnd, hnr, if_true, if_false]) ?_
  refine zaP (b := B) (o := p) f2 (by simp only [zac, ev, zad, hN2, hw, hnd, hnr, if_true, if_false]) ?_
  refine zaO (b := B) (o := p + (k0 + foff E.fl fs i)) f4 (by simp only [zac, ev, zad, hN2, hw, hnd, hnr, if_true, if_false]) hb3 hcell ?_
  refine zam ?_
  simp only [zac, ev, zad, hN2, hw, hnd, hnr, if_true, if_false]
  refine zae (hK _ _ ?_)
  clear hK K
  refine wp_seq_k fun K hK => ?_
  refine zah ?_
  refine zat ?_
  simp only [zac, ev, zad, hN2, hw, hnd, hnr, if_true, if_false]
  refine zaC hen (by simp only [List.map_toArray, List.map_cons, List.map_nil, zac, ev, zad, hN2, hw, hnd, hnr, if_true, if_false]; exact hdef w3 _ 0 _ T2 hbn3 (by omega) (by rw [List.drop_zero, List.take_length])) ?_
  rintro vd w4 ⟨hb4, hc4⟩
  have edc : zaA (zaR zc).cells.toList 0 dc = dc := by
    unfold zaA
    rw [List.take_zero, List.nil_append, Nat.zero_add, List.drop_of_length_le (by omega), List.append_nil]
  rw [edc] at hb4
  refine zae (hK _ _ ?_)
  clear hK K
  refine wp_seq_k fun K hK => ?_
  refine zah ?_
  refine zat ?_
  simp only [zac, ev, zad, hN2, hw, hnd, hnr, if_true, if_false]
  refine zam ?_
  simp only [zac, ev, zad, hN2, hw, hnd, hnr, if_true, if_false]
  refine zae (hK _ _ ?_)
  clear hK K
  obtain ⟨b8, hb8⟩ : ∃ b8, b8 = ((((((((((((b2.put (some u1) (.pointer (some ⟨B, p, none⟩))).put (some u2) (.pointer (some ⟨w1.heap.size, 0, none⟩))).put (some u3) (.pointer (some ⟨B, p, none⟩))).put (some u4) (.pointer (some ⟨B, p + (k0 + foff E.fl fs i), none⟩))).put (some v1) (.pointer (some ⟨B, p, none⟩))).put (some v2) (.pointer (some ⟨B, p, none⟩))).put (some v3) (.pointer (some ⟨B, p + (k0 + foff E.fl fs i), none⟩))).put (some v4) (.pointer (some ⟨w1.heap.size, 0, none⟩))).put (some y) (.pointer (some ⟨w1.heap.size, 0, none⟩))).put (some v5) (.pointer (some ⟨w1.heap.size, 0, none⟩))).put (some v6) vd).put (some v7) (.pointer (some ⟨w1.heap.size, 0, none⟩))).put (some ys) (.pointer (some ⟨w1.heap.size, 0, none⟩)) := ⟨_, rfl⟩
  have hw' := hw.2.2.2.2.2.2.2
  have hk8 : zaz (RS m) b2 b8 := by
    rw [hb8]
    exact (((((((((((((zaz.refl _ _).put hw'.1.1 _).put hw'.2.1.1 _).put hw'.2.2.1.1 _).put hw'.2.2.2.1.1 _).put hw'.2.2.2.2.1.1 _).put hw'.2.2.2.2.2.1.1 _).put hw'.2.2.2.2.2.2.1.1 _).put hw'.2.2.2.2.2.2.2.1.1 _).put hw'.2.2.2.2.2.2.2.2.1.1 _).put hw'.2.2.2.2.2.2.2.2.2.1.1 _).put hw'.2.2.2.2.2.2.2.2.2.2.1.1 _).put hw'.2.2.2.2.2.2.2.2.2.2.2.1.1 _).put hw'.2.2.2.2.2.2.2.2.2.2.2.2.1 _
  have g8 : get b8 ys = .pointer (some ⟨w1.heap.size, 0, none⟩) := by rw [hb8]; exact zaa (by simp only [zad, hN2]; exact hw'.2.2.2.2.2.2.2.2.2.2.2.2.2.1)
  rw [← hb8]
  clear hb8
  have hRl := hB1.rs.lt
  have hgE : gE ≠ w1.heap.size := by
    intro e
    obtain ⟨_, _, _, h2⟩ := hB1.err
    have : w1.heap[gE]? = none := by rw [Array.getElem?_eq_none]; omega
    simp [ldOK, World.cell?, this] at h2
  have hc13 : Chg (fun k => k = B) w1 w3 := (hc2.mono (Y := fun k => k = B) fun _ _ h => h.elim).trans hc3 fun _ _ h => h
  have hc14 : Chg (fun k => k = B) w1 w4 := hc13.trans hc4 fun k hk h => by omega
  have hB8 : RB E b8 w4 (fun g => O g ∨ g = w1.heap.size) R (some q0.2) := by
    have hx := hB1.next hm (hk2.trans hk8) hc14 (fun k h => by rw [h]; exact hP.oB) (hB1.rs.stay (zbr.of hc14 fun k hk _ e => hk (e ▸ hP.oB)) (hc14.block R hRl hP.ne)) (Nat.le_refl _)
    refine ⟨hx.ok, hx.rd, hB1.rs.stay ⟨fun k hk hg => ⟨hc14.block k hk fun e => hg (e ▸ hP.oB), fun h => ?_⟩⟩ (hc14.block R hRl hP.ne), .inl hx.oR, fun h => ?_, hx.err, fun k hk h => ?_, hx.lim⟩
    · rcases h with h | h
      · exact hg h
      · omega
    · rcases h with h | h
      · exact hx.oE h
      · exact hgE h
    · rcases h with h | h
      · exact hx.new k hk h
      · have := hc14.size; have := hc2.size; have := hc3.size; have := hc4.size; omega
  have hP8 : RP E ys 0 sub b8 w4 (fun g => O g ∨ g = w1.heap.size) R w1.heap.size 0 ⟨dfltL sub, []⟩ := by
    refine ⟨g8, ⟨dc, T2, hb4, by omega, ?_⟩, .inr rfl, by omega⟩
    rw [List.drop_zero, List.take_of_length_le (by omega)]
    exact repSB_out z3
  refine wp_mono (h b8 w4 (fun g => O g ∨ g = w1.heap.size) R w1.heap.size 0 (some q0.2) ⟨dfltL sub, []⟩ hB8 hP8 (fresh0 sub)) ?_
  intro e a9 w9 hq9
  have hcc : ∀ k, k < w.heap.size → (k = R ∨ k = w1.heap.size) → k = R := fun k hk h => by have := hq.chg.size; rcases h with h | h; exact h; omega
  have ebind : st.bind (decF E.flex E.ver (.mk .struct a1 a2 a3 a4 a5 of sub)) = (zbl E.flex E.ver sub q0.2).map fun x => (.ptr x.1.d, x.2) := by
    rw [hdec]
    have e0 : st.bind (fun bs => (rS 1 bs).bind fun p => if p.1 = -1 then some (D.pnil, p.2) else (zbl E.flex E.ver sub p.2).map fun x => (D.ptr x.1.d, x.2)) = (st.bind (rS 1)).bind fun p => if p.1 = -1 then some (D.pnil, p.2) else (zbl E.flex E.ver sub p.2).map fun x => (D.ptr x.1.d, x.2) := by cases st <;> rfl
    rw [e0, hst1, Option.bind_some, if_neg (by rw [← hq0]; exact hx0)]
  cases e <;> try exact hq9.elim
  · obtain ⟨hk, hc, hrest, st1, s1', hs1, ha1, hstp, hl, _⟩ := hq9
    obtain ⟨e1', e2'⟩ := hstp.part
    obtain ⟨cs9, h91, h92, _⟩ := hrest _ _ hb4
    obtain ⟨cs0, T0, q1, q2, q3⟩ := ha1
    obtain ⟨rfl, _⟩ := q1.inj h91
    have hall : Chg (fun k => k = R ∨ k = B) w w9 := ((hq.chg.mono fun _ _ h => Or.inl h).trans hc14 fun _ _ h => .inr h).trans hc fun k hk h => .inl (hcc k hk h)
    have hst9 : zbr w9 w9 (fun g => ¬ (O g ∨ g = w1.heap.size)) (fun g => ¬ O g) := zbr.sub fun k _ h => fun h2 => h (.inl h2)
    have hb39 : Blk w9 B (zaA cs (p + k0 + foff E.fl fs i) [.pointer (some ⟨w1.heap.size, 0, none⟩)]) Tb := (hb3.chg hc4 (by omega)).chg hc fun h => by rcases h with h | h; exact hP.ne h.symm; omega
    have hwB : Blk w B cs Tb := by
      have h0 := hq.chg.block B (by obtain ⟨_, _, hh, _⟩ := hP.at_; exact hh.lt) fun e => hP.ne e.symm
      exact h0.symm.trans c2
    refine ⟨hk1.trans (hk2.trans (hk8.trans (hk.mono fun t ht => ⟨by have := ht.1; omega, ht.2⟩))), hall, ?_, st1, _, hs1.stay hst9 rfl, at_set hP.at_ hf (d := .ptr s1'.d) (vs := [.pointer (some ⟨w1.heap.size, 0, none⟩)]) ?_ (by rw [hfs]; rfl) hwB hb39 hall (fun k hk _ e => hk (by rcases e with rfl | rfl; exact hB.oR; exact hP.oB)), ?_, Nat.le_trans hl hl1, fun j hj => ?_⟩
    · intro cs' T' hb'
      obtain ⟨rfl, rfl⟩ := hb'.inj hwB
      refine ⟨_, hb39, za1 hlc, fun j hj => ?_⟩
      have hfo : foff E.fl fs i + 1 ≤ ssz E.fl fs := by
        obtain ⟨csA, TA, g1', g2', v1', v2', g3', g4', g5'⟩ := hat1
        obtain ⟨_, _, _, h6⟩ := g4'.get hf
        have := g4'.len.1
        rw [hfs] at h6
        unfold ssz; omega
      rcases hj with hj | hj
      · exact za7 hlc (by omega)
      · exact za6 hlc (by simp only [List.length_singleton]; omega)
    · unfold RepF
      dsimp only
      rw [if_neg (by omega)]
      rw [Nat.add_zero, List.drop_zero, List.take_of_length_le (by omega)] at q3
      obtain ⟨pv1, pv2, p1, p2, p3⟩ := q3
      exact ⟨s1', rfl, w1.heap.size, cs0, _, rfl, hB1.new _ (Nat.le_refl _), h91, pv1, pv2, p1, RepL.stay hst9 p2, p3.stay hst9⟩
    · have e3 : st1 = (st.bind (decF E.flex E.ver (.mk .struct a1 a2 a3 a4 a5 of sub))).map (·.2) := by
        rw [e1', ebind, Option.bind_some, Option.map_map, Option.map_map]; rfl
      rw [e3]
      refine stp_set fun z hz => ?_
      rw [ebind] at hz
      cases hh : zbl E.flex E.ver sub q0.2 with
      | none => rw [hh] at hz; cases hz
      | some zz =>
        rw [hh] at hz
        simp only [Option.map_some, Option.some.injEq] at hz
        rw [← hz, e2' (zz.1.d, zz.2) (by rw [Option.bind_some, hh]; rfl)]
    · show (s.ds.set i _)[j]? = _
      rw [List.getElem?_set_ne (by omega)]
  · obtain ⟨g1', g2', g3', g4'⟩ := hq9
    refine ⟨g1', g2', ?_, ?_⟩
    · have e0 : st.bind (semSet i (decF E.flex E.ver (.mk .struct a1 a2 a3 a4 a5 of sub)) s) = (st.bind (decF E.flex E.ver (.mk .struct a1 a2 a3 a4 a5 of sub))).map fun x => ({ s with ds := s.ds.set i x.1 }, x.2) := by cases st <;> rfl
      rw [Option.bind_some, ← part_sem] at g3'
      rw [e0, ebind, g3']; rfl
    · refine ((hq.chg.mono fun k _ h => by rw [h]; exact hB.oR : Chg O w w1).trans (hc14.mono fun k _ h => by rw [h]; exact hP.oB : Chg O w1 w4) fun _ _ h => h).trans g4' fun k hk h => ?_
      have := hq.chg.size
      rcases h with h | h
      · exact h
      · omega
end
end Go.Proofs.YtkodgaelpllhgabGreatDoorR
