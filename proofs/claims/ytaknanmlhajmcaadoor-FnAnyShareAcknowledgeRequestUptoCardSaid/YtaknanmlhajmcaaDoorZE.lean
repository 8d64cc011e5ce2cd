import Derived.Test.YtaknanmlhajmcaaDoorZD
/-
What the proofs of the laws rest on, part ZE.
-/
namespace Go.Proofs.YtaknanmlhajmcaaDoor
set_option linter.all false
open Go.RowKit
set_option maxRecDepth 10000
set_option maxHeartbeats 1000000
section
variable {y0 y1 y2 y3 y4 y5 y6 y7 y8 y9 y10 y11 y12 y13 y14 y15 y16 y17 y18 y19 y20 y21 y22 y23 y24 y25 y26 y27 y28 y29 y30 y31 y32 y33 y34 y35 y36 y37 y38 y39 : TypeId} {q0 q1 q2 q3 q4 q5 q6 q7 q8 q9 q10 q11 q12 q13 q14 q15 q16 q17 q18 q19 q20 q21 q22 q23 q24 q25 q26 q27 q28 q29 q30 q31 q32 q33 q34 q35 q36 q37 q38 q39 : String} {e0 e1 e2 e3 e4 e5 e6 e7 e8 e9 e10 e11 e12 e13 e14 e15 e16 e17 e18 e19 e20 e21 e22 e23 e24 e25 e26 e27 e28 e29 e30 e31 e32 e33 e34 e35 e36 e37 e38 e39 : Array Edge} {r0 r1 r2 r3 r4 r5 : Nat}
variable {E : REnv} {m aS iS x t1 t2 t3 t4 ty tyE : Nat} {of : K} {sub : List Fld} {c : Code}
theorem el_val1 {zc : List Value} (hty : (decide (of ≠ .struct) && decide (of ≠ .list) && decide (ksz of = 1) && sliceB Tryd.prog ty 1 && sizeB Tryd.prog tyE 1) = true) (h : RvC E m x (kfR of) (rK of E.flex) c)
    (s1 : rsl E m [t1, t2, t3, t4] [7, aS, iS] = true) (s2 : [t1, t2, t3, t4].all (fun t => decide (t ≠ x)) = true) :
    ElC E m aS iS (eszR E of sub) (oneR E of sub) (repR E of sub) zc
      (.seq c (.region r0 #[⟨some t1, .move (.tmp aS), y0, q0, e0, none⟩, ⟨some t2, .move (.tmp iS), y1, q1, e1, none⟩, ⟨some t3, .move (.tmp x), y2, q2, e2, none⟩, ⟨some t4, .indexAddr ty (.tmp t1) (.tmp t2), y3, q3, e3, none⟩, ⟨none, .store tyE (.tmp t4) (.tmp t3), y4, q4, e4, none⟩] false)) := by
  have e : eszR E of sub = ksz of := by
    cases of <;> first | rfl | (exfalso; simp at hty)
  rw [e]
  exact el_val hty h s1 s2
end
section
variable {y0 y1 y2 y3 y4 y5 y6 y7 y8 y9 y10 y11 y12 y13 y14 y15 y16 y17 y18 y19 y20 y21 y22 y23 y24 y25 y26 y27 y28 y29 y30 y31 y32 y33 y34 y35 y36 y37 y38 y39 : TypeId} {q0 q1 q2 q3 q4 q5 q6 q7 q8 q9 q10 q11 q12 q13 q14 q15 q16 q17 q18 q19 q20 q21 q22 q23 q24 q25 q26 q27 q28 q29 q30 q31 q32 q33 q34 q35 q36 q37 q38 q39 : String} {e0 e1 e2 e3 e4 e5 e6 e7 e8 e9 e10 e11 e12 e13 e14 e15 e16 e17 e18 e19 e20 e21 e22 e23 e24 e25 e26 e27 e28 e29 e30 e31 e32 e33 e34 e35 e36 e37 e38 e39 : Array Edge} {r0 r1 r2 r3 r4 r5 : Nat}
variable {E : REnv} {m sS k0 i I x y t1 t2 t3 t4 t5 T ty idx : Nat} {us : Array TypeId} {f : Fld} {fs : List Fld} {pre : S → Prop} {sem : Bs → Option (D × Bs)} {fn : FuncId} {a1 a2 a3 a4 a5 : Int} {of : K} {sub : List Fld} {c : Code}
theorem rf_uuid2 (hf : fs[i]? = some (.mk .uuid a1 a2 a3 a4 a5 of sub)) (hF : (fieldB Tryd.prog T idx (k0 + foff E.fl fs i) 16 && sizeB Tryd.prog ty 16) = true) (hsl0 : rsl E m [t5, x] [7] = true) (hux : decide (t5 ≠ x) = true) (hsl : rsl E m [t1, t2, t3, t4] [sS, 7] = true) (hx : [t1, t2, t3, t4].all (fun t => decide (t ≠ x)) = true) :
    RdC E m sS k0 fs (i + 1) pre (semSet i (decF E.flex E.ver (.mk .uuid a1 a2 a3 a4 a5 of sub))) (.seq (.region r1 #[⟨some t5, .call { callee := .value (.func 38), args := #[.tmp 7], argTypes := us }, y0, q0, e0, none⟩, ⟨some x, .alloc 51, y1, q1, e1, none⟩, ⟨none, .store 51 (.tmp x) (.tmp t5), y2, q2, e2, none⟩] false)
      (.region r0 #[⟨some t1, .move (.tmp sS), y3, q3, e3, none⟩, ⟨some t2, .load 51 (.tmp x), y4, q4, e4, none⟩, ⟨some t3, .nilCheck (.tmp t1), y5, q5, e5, none⟩, ⟨some t4, .fieldAddr T (.tmp t3) idx, y6, q6, e6, none⟩, ⟨none, .store ty (.tmp t4) (.tmp t2), y7, q7, e7, none⟩] false)) := by
  simp only [Bool.and_eq_true] at hF
  obtain ⟨f2, f3⟩ := hF
  obtain ⟨hm0, hw0, hr0, hnd0⟩ := zaC hsl0
  simp only [List.mem_cons, List.not_mem_nil, or_false, forall_eq_or_imp, forall_eq, List.nodup_cons, not_or, List.nodup_nil, and_true, not_false_eq_true] at hw0 hnd0 hr0
  obtain ⟨hm, hw, hr, hnd⟩ := zaC hsl
  simp only [List.mem_cons, List.not_mem_nil, or_false, forall_eq_or_imp, forall_eq, List.nodup_cons, not_or, List.nodup_nil, and_true, not_false_eq_true, List.all_cons, List.all_nil, Bool.and_true, Bool.and_eq_true, decide_eq_true_eq] at hw hnd hr hx
  intro a w O R B p st s hB hP _
  have hNa := hB.ok.1
  refine wp_seq_k fun K hK => ?_
  refine zah ?_
  refine wl_rd (fun args w => Tryd.call38 args w) Uuid_c (by simp only [List.map_toArray, List.map_cons, List.map_nil, zab, hB.rd]) hB.rs (fun h => h hB.oR) hB.new ?_
  intro v w0 hq0
  obtain ⟨l, ⟨rfl, hl16⟩, k2⟩ := hq0.val
  refine wl_allocA (z := aggOf (List.replicate 16 (.int .u8 0))) (fun w => Tryd.zeroValue51 w) fun w1a hc1a hb1a hs1a => ?_
  have h5x : t5 ≠ x := of_decide_eq_true hux
  refine wl_storeAll (b := w0.heap.size) (n := 16) (l' := l.map zax) (by kernel_rfl) (by simp only [zab, zaa, zad, hNa, hw0]) (by
    simp only [zab, zac (Ne.symm h5x), zaa, zad, hNa, hw0]; rfl) hb1a (by simpa using hl16) (by intro u hu; obtain ⟨z, _, rfl⟩ := List.mem_map.1 hu; rfl) (by simp [aggOf, Value.cells]) fun w1 hbx hc1b => ?_
  refine zag (hK _ _ ?_)
  clear hK K
  have hck : Chg (fun _ => False) w0 w1 := hc1a.trans hc1b fun n hn e => by omega
  have hR0 := hq0.rd.lt
  have hqchg : Chg (fun k => k = R) w w1 := hq0.chg.trans hck fun _ _ h => h.elim
  have hqrd := hq0.rd.stay (Stay.of hck fun _ _ _ h => h) (hck.block R hR0 (fun h => h))
  have q1 : zas (RS m) a ((a.put (some t5) (.agg (l.map zax).toArray)).put (some x) (.pointer (some ⟨w0.heap.size, 0, none⟩))) := ((zas.refl _ _).put hw0.1.1 _).put hw0.2.1 _
  have q5 : get ((a.put (some t5) (.agg (l.map zax).toArray)).put (some x) (.pointer (some ⟨w0.heap.size, 0, none⟩))) x = .pointer (some ⟨w0.heap.size, 0, none⟩) := zaa (by rw [zad, hNa]; exact hw0.2.2.1)
  change Code.wp _ _ _ ((a.put (some t5) (.agg (l.map zax).toArray)).put (some x) (.pointer (some ⟨w0.heap.size, 0, none⟩))) w1
  generalize ((a.put (some t5) (.agg (l.map zax).toArray)).put (some x) (.pointer (some ⟨w0.heap.size, 0, none⟩))) = ac at q1 q5 ⊢
  have hN : ac.tmps.size = E.N := q1.size.trans hNa
  have hs : get ac sS = .pointer (some ⟨B, p, none⟩) := (q1.slot _ hr.1).trans hP.pt
  obtain ⟨cs, Tb, c1, c2⟩ := hP.at_
  have hfs : fsz E.fl (.mk .uuid a1 a2 a3 a4 a5 of sub) = 16 := rfl
  have hfo : foff E.fl fs i + 16 ≤ lsz E.fl fs := by
    obtain ⟨_, v1, v2, g3, g4, g5⟩ := c2
    obtain ⟨_, _, _, h6⟩ := g4.get hf
    have := g4.len.1
    omega
  have hsz : lsz E.fl fs ≤ ssz E.fl fs := by unfold ssz; omega
  have hb1 : Blk w1 B cs Tb := c1.chg hqchg (fun e => hP.ne e.symm)
  have e : (decF E.flex E.ver (.mk .uuid a1 a2 a3 a4 a5 of sub)) = fun bs => (take? 16 bs).map fun y => (.uuid y.1, y.2) := by
    funext bs; unfold decF; rfl
  rw [e]
  have hl : ∀ st : Option Bs, st.bind (fun bs => (take? 16 bs).map fun y => (D.uuid y.1, y.2)) = (st.bind (take? 16)).map fun y => (D.uuid y.1, y.2) := fun st => by cases st <;> rfl
  have he : (st.bind (fun bs => (take? 16 bs).map fun y => (D.uuid y.1, y.2))).map (·.2) = (st.bind (take? 16)).map (·.2) := by rw [hl, Option.map_map]; rfl
  have hvc : (Value.agg (l.map zax).toArray).cells.toList = l.map zax := by simp [Value.cells]
  refine zah ?_
  refine zao ?_
  rw [zab, hs]
  refine wl_loadAgg (b := w0.heap.size) (o := 0) (n := 16) (by kernel_rfl) (by kernel_rfl) (by rw [zab, zac hx.1, q5]) hbx (by simp [hl16]) ?_
  have e16 : ((l.map zax).drop 0).take 16 = l.map zax := by rw [List.drop_zero]; exact List.take_of_length_le (by simp [hl16])
  rw [e16]
  refine zaF (p := ⟨B, p, none⟩) (by simp only [zab, zaa, zac, zae, ne_eq, zad, hN, hnd, hw, not_false_eq_true]) ?_
  refine zaI (b := B) (o := p) f2 (by simp only [zab, zaa, zac, zae, ne_eq, zad, hN, hnd, hw, not_false_eq_true]) ?_
  refine zaK (b := B) (o := p + (k0 + foff E.fl fs i)) (n := 16) (v := .agg (l.map zax).toArray) f3 (by simp only [zab, zaa, zac, zae, ne_eq, zad, hN, hnd, hw, not_false_eq_true]) (by simp only [zab, zaa, zac, zae, ne_eq, zad, hN, hnd, hw, not_false_eq_true]) hb1 (by simp [Value.cells, hl16])
    (by intro u hu; rw [hvc] at hu; obtain ⟨z, _, rfl⟩ := List.mem_map.1 hu; rfl) (by have := c1.lt; omega) fun w2 hb2 hc2 => ?_
  rw [hvc] at hb2
  refine zag ?_
  rw [show p + (k0 + foff E.fl fs i) = p + k0 + foff E.fl fs i by omega] at hb2
  exact set_field hP hB hf ((((q1.put hw.1.1 _).put hw.2.1.1 _).put hw.2.2.1.1 _).put hw.2.2.2.1 _) hqchg (by rw [he]; exact hqrd) (by rw [he]; exact (less_take 16).st st) (d := .uuid l) (vs := l.map zax) (by unfold RepF; exact ⟨hl16, rfl⟩) (by rw [hfs]; simpa using hl16) (fun z hz => by
    rw [hl] at hz
    cases hb : st.bind (take? 16) with
    | none => rw [hb] at hz; cases hz
    | some u =>
      rw [hb] at hz
      simp only [Option.map_some, Option.some.injEq] at hz
      rw [← hz, k2 u hb]) c1 hb2 hc2
end
end Go.Proofs.YtaknanmlhajmcaaDoor
namespace Go.Proofs.YtaknanmlhajmcaaDoor
set_option linter.all false
open Go.RowKit
set_option maxRecDepth 10000
set_option maxHeartbeats 2000000
section
variable {y0 y1 y2 y3 y4 y5 y6 y7 y8 y9 y10 y11 y12 y13 y14 y15 y16 y17 y18 y19 y20 y21 y22 y23 y24 y25 y26 y27 y28 y29 y30 y31 y32 y33 y34 y35 y36 y37 y38 y39 : TypeId} {q0 q1 q2 q3 q4 q5 q6 q7 q8 q9 q10 q11 q12 q13 q14 q15 q16 q17 q18 q19 q20 q21 q22 q23 q24 q25 q26 q27 q28 q29 q30 q31 q32 q33 q34 q35 q36 q37 q38 q39 : String} {e0 e1 e2 e3 e4 e5 e6 e7 e8 e9 e10 e11 e12 e13 e14 e15 e16 e17 e18 e19 e20 e21 e22 e23 e24 e25 e26 e27 e28 e29 e30 e31 e32 e33 e34 e35 e36 e37 e38 e39 : Array Edge} {r0 r1 r2 r3 r4 r5 : Nat}
variable {r6 r7 r8 r9 r10 r11 r12 r13 r14 : Nat}
variable {y40 y41 y42 y43 y44 y45 y46 y47 y48 y49 y50 y51 y52 y53 y54 : TypeId} {q40 q41 q42 q43 q44 q45 q46 q47 q48 q49 q50 q51 q52 q53 q54 : String} {e40 e41 e42 e43 e44 e45 e46 e47 e48 e49 e50 e51 e52 e53 e54 : Array Edge}
variable {E : REnv} {m mB sS k0 i I x y ys aS iS lS vS t1 t2 t3 t4 t5 t6 t7 t8 t9 t10 t11 t12 w1' w2' w3' w4' w5' u1 u2 u3 u4 u5 v1 v2 v3 v4 b1 b2 ug uo uc ui n1 n2 n3 n4 n5 n6 n7 un1 un2 : Nat} {fs sub : List Fld} {pre : S → Prop} {c body cl : Code} {us us2 us3 : Array TypeId} {fn : FuncId} {T ty ti idx ua : Nat} {a1 a2 a3 a4 a5 : Int} {of : K} {z : Value}
variable {z4 z5 : TypeId} {p4 p5 : String} {j4 j5 : Array Edge}
end
end Go.Proofs.YtaknanmlhajmcaaDoor
