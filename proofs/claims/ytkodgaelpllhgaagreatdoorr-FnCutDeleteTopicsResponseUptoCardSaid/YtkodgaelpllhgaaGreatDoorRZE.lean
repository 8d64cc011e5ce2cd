import Derived.Test.YtkodgaelpllhgaaGreatDoorRZD
/-
What the proofs of the laws rest on, part ZE.
-/
namespace Go.Proofs.YtkodgaelpllhgaaGreatDoorR
set_option linter.all false
open Go.RowKit
set_option maxRecDepth 10000
set_option maxHeartbeats 1000000
section
variable {y0 y1 y2 y3 y4 y5 y6 y7 y8 y9 y10 y11 y12 y13 y14 y15 y16 y17 y18 y19 y20 y21 y22 y23 y24 y25 y26 y27 y28 y29 y30 y31 y32 y33 y34 y35 y36 y37 y38 y39 : TypeId} {q0 q1 q2 q3 q4 q5 q6 q7 q8 q9 q10 q11 q12 q13 q14 q15 q16 q17 q18 q19 q20 q21 q22 q23 q24 q25 q26 q27 q28 q29 q30 q31 q32 q33 q34 q35 q36 q37 q38 q39 : String} {e0 e1 e2 e3 e4 e5 e6 e7 e8 e9 e10 e11 e12 e13 e14 e15 e16 e17 e18 e19 e20 e21 e22 e23 e24 e25 e26 e27 e28 e29 e30 e31 e32 e33 e34 e35 e36 e37 e38 e39 : Array Edge} {r0 r1 r2 r3 r4 r5 : Nat}
variable {E : REnv} {m aS iS x t1 t2 t3 t4 ty tyE : Nat} {of : K} {sub : List Fld} {c : Code}
theorem el_val1 {zc : List Value} (hty : (decide (of ≠ .struct) && decide (of ≠ .list) && decide (ksz of = 1) && sliceB Tryz.prog ty 1 && sizeB Tryz.prog tyE 1) = true) (h : RvC E m x (kfR of) (rK of E.flex) c)
    (s1 : rsl E m [t1, t2, t3, t4] [7, aS, iS] = true) (s2 : [t1, t2, t3, t4].all (fun t => decide (t ≠ x)) = true) :
    ElC E m aS iS (eszR E of sub) (oneR E of sub) (repR E of sub) zc
      (.seq c (.region r0 #[⟨some t1, .move (.tmp aS), y0, q0, e0, none⟩, ⟨some t2, .move (.tmp iS), y1, q1, e1, none⟩, ⟨some t3, .move (.tmp x), y2, q2, e2, none⟩, ⟨some t4, .indexAddr ty (.tmp t1) (.tmp t2), y3, q3, e3, none⟩, ⟨none, .store tyE (.tmp t4) (.tmp t3), y4, q4, e4, none⟩] false)) := by
  have e : eszR E of sub = ksz of := by
    cases of <;> first | rfl | (exfalso; simp at hty)
  rw [e]
  exact el_val hty h s1 s2
end
section
variable {y0 y1 y2 y3 y4 y5 y6 y7 y8 y9 y10 y11 y12 y13 y14 y15 y16 y17 y18 y19 y20 y21 y22 y23 y24 y25 y26 y27 y28 y29 y30 y31 y32 y33 y34 y35 y36 y37 y38 y39 : TypeId} {q0 q1 q2 q3 q4 q5 q6 q7 q8 q9 q10 q11 q12 q13 q14 q15 q16 q17 q18 q19 q20 q21 q22 q23 q24 q25 q26 q27 q28 q29 q30 q31 q32 q33 q34 q35 q36 q37 q38 q39 : String} {e0 e1 e2 e3 e4 e5 e6 e7 e8 e9 e10 e11 e12 e13 e14 e15 e16 e17 e18 e19 e20 e21 e22 e23 e24 e25 e26 e27 e28 e29 e30 e31 e32 e33 e34 e35 e36 e37 e38 e39 : Array Edge} {r0 r1 r2 r3 r4 r5 : Nat}
variable {E : REnv} {m sS k0 i I x y t1 t2 t3 t4 t5 T ty idx : Nat} {us : Array TypeId} {f : Fld} {fs : List Fld} {pre : S → Prop} {sem : Bs → Option (D × Bs)} {fn : FuncId} {a1 a2 a3 a4 a5 : Int} {of : K} {sub : List Fld} {c : Code}
theorem rf_uuid2 (hf : fs[i]? = some (.mk .uuid a1 a2 a3 a4 a5 of sub)) (hF : (fieldB Tryz.prog T idx (k0 + foff E.fl fs i) 16 && sizeB Tryz.prog ty 16) = true) (hsl0 : rsl E m [t5, x] [7] = true) (hux : decide (t5 ≠ x) = true) (hsl : rsl E m [t1, t2, t3, t4] [sS, 7] = true) (hx : [t1, t2, t3, t4].all (fun t => decide (t ≠ x)) = true) :
    RdC E m sS k0 fs (i + 1) pre (semSet i (decF E.flex E.ver (.mk .uuid a1 a2 a3 a4 a5 of sub))) (.seq (.region r1 #[⟨some t5, .call { callee := .value (.func 62), args := #[.tmp 7], argTypes := us }, y0, q0, e0, none⟩, ⟨some x, .alloc 76, y1, q1, e1, none⟩, ⟨none, .store 76 (.tmp x) (.tmp t5), y2, q2, e2, none⟩] false)
      (.region r0 #[⟨some t1, .move (.tmp sS), y3, q3, e3, none⟩, ⟨some t2, .load 76 (.tmp x), y4, q4, e4, none⟩, ⟨some t3, .nilCheck (.tmp t1), y5, q5, e5, none⟩, ⟨some t4, .fieldAddr T (.tmp t3) idx, y6, q6, e6, none⟩, ⟨none, .store ty (.tmp t4) (.tmp t2), y7, q7, e7, none⟩] false)) := by
  simp only [Bool.and_eq_true] at hF
  obtain ⟨f2, f3⟩ := hF
  obtain ⟨hm0, hw0, hr0, hnd0⟩ := zaO hsl0
  simp only [List.mem_cons, List.not_mem_nil, or_false, forall_eq_or_imp, forall_eq, List.nodup_cons, not_or, List.nodup_nil, and_true, not_false_eq_true] at hw0 hnd0 hr0
  obtain ⟨hm, hw, hr, hnd⟩ := zaO hsl
  simp only [List.mem_cons, List.not_mem_nil, or_false, forall_eq_or_imp, forall_eq, List.nodup_cons, not_or, List.nodup_nil, and_true, not_false_eq_true, List.all_cons, List.all_nil, Bool.and_true, Bool.and_eq_true, decide_eq_true_eq] at hw hnd hr hx
  intro a w O R B p st s hB hP _
  have hNa := hB.ok.1
  refine wp_seq_k fun K hK => ?_
  refine zah ?_
  refine wl_rd (fun args w => Tryz.call62 args w) Uuid_c (by simp only [List.map_toArray, List.map_cons, List.map_nil, zac, hB.rd]) hB.rs (fun h => h hB.oR) hB.new ?_
  intro v w0 hq0
  obtain ⟨l, ⟨rfl, hl16⟩, k2⟩ := hq0.val
  refine za4 (z := zaV (List.replicate 16 (.int .u8 0))) (fun w => Tryz.zeroValue76 w) fun w1a hc1a hb1a hs1a => ?_
  have h5x : t5 ≠ x := of_decide_eq_true hux
  refine zba (b := w0.heap.size) (n := 16) (l' := l.map zaF) (by kernel_rfl) (by simp only [zac, zaa, zae, hNa, hw0]) (by
    simp only [zac, zab (Ne.symm h5x), zaa, zae, hNa, hw0]; rfl) hb1a (by simpa using hl16) (by intro u hu; obtain ⟨z, _, rfl⟩ := List.mem_map.1 hu; rfl) (by simp [zaV, Value.cells]) fun w1 hbx hc1b => ?_
  refine zad (hK _ _ ?_)
  clear hK K
  have hck : Chg (fun _ => False) w0 w1 := hc1a.trans hc1b fun n hn e => by omega
  have hR0 := hq0.rd.lt
  have hqchg : Chg (fun k => k = R) w w1 := hq0.chg.trans hck fun _ _ h => h.elim
  have hqrd := hq0.rd.stay (Stay.of hck fun _ _ _ h => h) (hck.block R hR0 (fun h => h))
  have q1 : zaA (RS m) a ((a.put (some t5) (.agg (l.map zaF).toArray)).put (some x) (.pointer (some ⟨w0.heap.size, 0, none⟩))) := ((zaA.refl _ _).put hw0.1.1 _).put hw0.2.1 _
  have q5 : get ((a.put (some t5) (.agg (l.map zaF).toArray)).put (some x) (.pointer (some ⟨w0.heap.size, 0, none⟩))) x = .pointer (some ⟨w0.heap.size, 0, none⟩) := zaa (by rw [zae, hNa]; exact hw0.2.2.1)
  change Code.wp _ _ _ ((a.put (some t5) (.agg (l.map zaF).toArray)).put (some x) (.pointer (some ⟨w0.heap.size, 0, none⟩))) w1
  generalize ((a.put (some t5) (.agg (l.map zaF).toArray)).put (some x) (.pointer (some ⟨w0.heap.size, 0, none⟩))) = ac at q1 q5 ⊢
  have hN : ac.tmps.size = E.N := q1.size.trans hNa
  have hs : get ac sS = .pointer (some ⟨B, p, none⟩) := (q1.slot _ hr.1).trans hP.pt
  obtain ⟨cs, Tb, c1, c2⟩ := hP.at_
  have hfs : fsz E.fl (.mk .uuid a1 a2 a3 a4 a5 of sub) = 16 := rfl
  have hfo : foff E.fl fs i + 16 ≤ lsz E.fl fs := by
    obtain ⟨_, v1, v2, g3, g4, g5⟩ := c2
    obtain ⟨_, _, _, h6⟩ := g4.get hf
    have := g4.len.1
    omega
  have hsz : lsz E.fl fs ≤ ssz E.fl fs := by unfold ssz; omega
  have hb1 : Blk w1 B cs Tb := c1.chg hqchg (fun e => hP.ne e.symm)
  have e : (decF E.flex E.ver (.mk .uuid a1 a2 a3 a4 a5 of sub)) = fun bs => (take? 16 bs).map fun y => (.uuid y.1, y.2) := by
    funext bs; unfold decF; rfl
  rw [e]
  have hl : ∀ st : Option Bs, st.bind (fun bs => (take? 16 bs).map fun y => (D.uuid y.1, y.2)) = (st.bind (take? 16)).map fun y => (D.uuid y.1, y.2) := fun st => by cases st <;> rfl
  have he : (st.bind (fun bs => (take? 16 bs).map fun y => (D.uuid y.1, y.2))).map (·.2) = (st.bind (take? 16)).map (·.2) := by rw [hl, Option.map_map]; rfl
  have hvc : (Value.agg (l.map zaF).toArray).cells.toList = l.map zaF := by simp [Value.cells]
  refine zah ?_
  refine zav ?_
  rw [zac, hs]
  refine zaX (b := w0.heap.size) (o := 0) (n := 16) (by kernel_rfl) (by kernel_rfl) (by rw [zac, zab hx.1, q5]) hbx (by simp [hl16]) ?_
  have e16 : ((l.map zaF).drop 0).take 16 = l.map zaF := by rw [List.drop_zero]; exact List.take_of_length_le (by simp [hl16])
  rw [e16]
  refine zaZ (p := ⟨B, p, none⟩) (by simp only [zac, zaa, zab, zaf, ne_eq, zae, hN, hnd, hw, not_false_eq_true]) ?_
  refine zaY (b := B) (o := p) f2 (by simp only [zac, zaa, zab, zaf, ne_eq, zae, hN, hnd, hw, not_false_eq_true]) ?_
  refine za6 (b := B) (o := p + (k0 + foff E.fl fs i)) (n := 16) (v := .agg (l.map zaF).toArray) f3 (by simp only [zac, zaa, zab, zaf, ne_eq, zae, hN, hnd, hw, not_false_eq_true]) (by simp only [zac, zaa, zab, zaf, ne_eq, zae, hN, hnd, hw, not_false_eq_true]) hb1 (by simp [Value.cells, hl16])
    (by intro u hu; rw [hvc] at hu; obtain ⟨z, _, rfl⟩ := List.mem_map.1 hu; rfl) (by have := c1.lt; omega) fun w2 hb2 hc2 => ?_
  rw [hvc] at hb2
  refine zad ?_
  rw [show p + (k0 + foff E.fl fs i) = p + k0 + foff E.fl fs i by omega] at hb2
  exact set_field hP hB hf ((((q1.put hw.1.1 _).put hw.2.1.1 _).put hw.2.2.1.1 _).put hw.2.2.2.1 _) hqchg (by rw [he]; exact hqrd) (by rw [he]; exact (less_take 16).st st) (d := .uuid l) (vs := l.map zaF) (by unfold RepF; exact ⟨hl16, rfl⟩) (by rw [hfs]; simpa using hl16) (fun z hz => by
    rw [hl] at hz
    cases hb : st.bind (take? 16) with
    | none => rw [hb] at hz; cases hz
    | some u =>
      rw [hb] at hz
      simp only [Option.map_some, Option.some.injEq] at hz
      rw [← hz, k2 u hb]) c1 hb2 hc2
end
end Go.Proofs.YtkodgaelpllhgaaGreatDoorR
namespace Go.Proofs.YtkodgaelpllhgaaGreatDoorR
set_option linter.all false
open Go.RowKit
set_option maxRecDepth 10000
set_option maxHeartbeats 2000000
section
variable {y0 y1 y2 y3 y4 y5 y6 y7 y8 y9 y10 y11 y12 y13 y14 y15 y16 y17 y18 y19 y20 y21 y22 y23 y24 y25 y26 y27 y28 y29 y30 y31 y32 y33 y34 y35 y36 y37 y38 y39 : TypeId} {q0 q1 q2 q3 q4 q5 q6 q7 q8 q9 q10 q11 q12 q13 q14 q15 q16 q17 q18 q19 q20 q21 q22 q23 q24 q25 q26 q27 q28 q29 q30 q31 q32 q33 q34 q35 q36 q37 q38 q39 : String} {e0 e1 e2 e3 e4 e5 e6 e7 e8 e9 e10 e11 e12 e13 e14 e15 e16 e17 e18 e19 e20 e21 e22 e23 e24 e25 e26 e27 e28 e29 e30 e31 e32 e33 e34 e35 e36 e37 e38 e39 : Array Edge} {r0 r1 r2 r3 r4 r5 : Nat}
variable {r6 r7 r8 r9 r10 r11 r12 r13 r14 : Nat}
variable {y40 y41 y42 y43 y44 y45 y46 y47 y48 y49 y50 y51 y52 y53 y54 : TypeId} {q40 q41 q42 q43 q44 q45 q46 q47 q48 q49 q50 q51 q52 q53 q54 : String} {e40 e41 e42 e43 e44 e45 e46 e47 e48 e49 e50 e51 e52 e53 e54 : Array Edge}
variable {E : REnv} {m mB sS k0 i I x y ys aS iS lS vS t1 t2 t3 t4 t5 t6 t7 t8 t9 t10 t11 t12 w1' w2' w3' w4' w5' u1 u2 u3 u4 u5 v1 v2 v3 v4 b1 b2 ug uo uc ui n1 n2 n3 n4 n5 n6 n7 un1 un2 : Nat} {fs sub : List Fld} {pre : S → Prop} {c body cl : Code} {us us2 us3 : Array TypeId} {fn : FuncId} {T ty ti idx ua : Nat} {a1 a2 a3 a4 a5 : Int} {of : K} {z : Value}
variable {z4 z5 : TypeId} {p4 p5 : String} {j4 j5 : Array Edge}
end
end Go.Proofs.YtkodgaelpllhgaaGreatDoorR
namespace Go.Proofs.YtkodgaelpllhgaaGreatDoorR
set_option linter.all false
open Go.RowKit
set_option maxRecDepth 10000
set_option maxHeartbeats 2000000
section
variable {y0 y1 y2 y3 y4 y5 y6 y7 y8 y9 y10 y11 y12 y13 y14 y15 y16 y17 y18 y19 y20 y21 y22 y23 y24 y25 y26 y27 y28 y29 y30 y31 y32 y33 y34 y35 y36 y37 y38 y39 : TypeId} {q0 q1 q2 q3 q4 q5 q6 q7 q8 q9 q10 q11 q12 q13 q14 q15 q16 q17 q18 q19 q20 q21 q22 q23 q24 q25 q26 q27 q28 q29 q30 q31 q32 q33 q34 q35 q36 q37 q38 q39 : String} {e0 e1 e2 e3 e4 e5 e6 e7 e8 e9 e10 e11 e12 e13 e14 e15 e16 e17 e18 e19 e20 e21 e22 e23 e24 e25 e26 e27 e28 e29 e30 e31 e32 e33 e34 e35 e36 e37 e38 e39 : Array Edge} {r0 r1 r2 r3 r4 r5 : Nat}
variable {r6 r7 r8 r9 r10 r11 r12 : Nat}
variable {E : REnv} {m mB sS k0 i I x y ys t1 t2 t3 t4 t5 t6 : Nat} {fs sub : List Fld} {c : Code} {us : Array TypeId} {fn : FuncId} {T idx : Nat} {a1 a2 a3 a4 a5 : Int} {of : K}
end
section
variable {y0 y1 y2 y3 y4 y5 y6 y7 y8 y9 y10 y11 y12 y13 y14 y15 y16 y17 y18 y19 y20 y21 y22 y23 y24 y25 y26 y27 y28 y29 y30 y31 y32 y33 y34 y35 y36 y37 y38 y39 : TypeId} {q0 q1 q2 q3 q4 q5 q6 q7 q8 q9 q10 q11 q12 q13 q14 q15 q16 q17 q18 q19 q20 q21 q22 q23 q24 q25 q26 q27 q28 q29 q30 q31 q32 q33 q34 q35 q36 q37 q38 q39 : String} {e0 e1 e2 e3 e4 e5 e6 e7 e8 e9 e10 e11 e12 e13 e14 e15 e16 e17 e18 e19 e20 e21 e22 e23 e24 e25 e26 e27 e28 e29 e30 e31 e32 e33 e34 e35 e36 e37 e38 e39 : Array Edge} {r0 r1 r2 r3 r4 r5 : Nat}
variable {E : REnv} {m x t1 : Nat} {us : Array TypeId} {a1 a2 a3 a4 a5 : Int} {of : K} {sub : List Fld}
end
end Go.Proofs.YtkodgaelpllhgaaGreatDoorR
namespace Go.Proofs.YtkodgaelpllhgaaGreatDoorR
set_option linter.all false
open Go.RowKit
set_option maxRecDepth 10000
set_option maxHeartbeats 1000000
section
variable {y0 y1 y2 y3 y4 y5 y6 y7 y8 y9 y10 y11 y12 y13 y14 y15 y16 y17 y18 y19 y20 y21 y22 y23 y24 y25 y26 y27 y28 y29 y30 y31 y32 y33 y34 y35 y36 y37 y38 y39 : TypeId} {q0 q1 q2 q3 q4 q5 q6 q7 q8 q9 q10 q11 q12 q13 q14 q15 q16 q17 q18 q19 q20 q21 q22 q23 q24 q25 q26 q27 q28 q29 q30 q31 q32 q33 q34 q35 q36 q37 q38 q39 : String} {e0 e1 e2 e3 e4 e5 e6 e7 e8 e9 e10 e11 e12 e13 e14 e15 e16 e17 e18 e19 e20 e21 e22 e23 e24 e25 e26 e27 e28 e29 e30 e31 e32 e33 e34 e35 e36 e37 e38 e39 : Array Edge} {r0 r1 r2 r3 r4 r5 : Nat}
variable {E : REnv} {m x y t t1 t2 : Nat} {us : Array TypeId} {fn : FuncId} {sem : Bs → Option (Bs × Bs)} {c ca cb cu : Code} {a1 a2 a3 a4 a5 : Int} {of : K} {sub : List Fld}
def RsC (E : REnv) (m y : Nat) (sem : Bs → Option (Bs × Bs)) (c : Code) : Prop :=
  ∀ (a : Act) (w : World) (O : Nat → Prop) (R b : Nat) (st : Option Bs) (v0 : Value), RB E a w O R st → get a y = .pointer (some ⟨b, 0, none⟩) → O b → R ≠ b → Blk w b [v0] 9 →
    c.wp Tryz.prog (RvX fun a' w' => zaA (RS m) a a' ∧ Chg (fun k => k = R ∨ k = b) w w' ∧ RdS w' (fun g => ¬ O g) R ((st.bind sem).map (·.2)) ∧ stLen ((st.bind sem).map (·.2)) ≤ stLen st ∧ ∃ l : Bs, Blk w' b [.string ⟨l.toArray⟩] 9 ∧ ∀ z, st.bind sem = some z → l = z.1) a w
theorem rs_go {a a1 : Act} {w : World} {O : Nat → Prop} {R b : Nat} {st : Option Bs} {v0 : Value} (hm : Low E m ∧ RS m y) (h : RsC E m y sem c) (hB : RB E a w O R st) (gy : get a y = .pointer (some ⟨b, 0, none⟩)) (hO : O b) (hne : R ≠ b) (hb : Blk w b [v0] 9) (hk : zaA (RS m) a a1) :
    c.wp Tryz.prog (RvX fun a' w' => zaA (RS m) a a' ∧ Chg (fun k => k = R ∨ k = b) w w' ∧ RdS w' (fun g => ¬ O g) R ((st.bind sem).map (·.2)) ∧ stLen ((st.bind sem).map (·.2)) ≤ stLen st ∧ ∃ l : Bs, Blk w' b [.string ⟨l.toArray⟩] 9 ∧ ∀ z, st.bind sem = some z → l = z.1) a1 w := by
  refine wp_mono (h a1 w O R b st v0 (hB.next hm.1 hk (Chg.refl (fun _ => False) _) (fun _ h => h.elim) hB.rs (Nat.le_refl _)) ((hk.slot _ hm.2).trans gy) hO hne hb) ?_
  intro e a2 w2 hq
  cases e <;> try exact hq.elim
  exact ⟨hk.trans hq.1, hq.2⟩
theorem rs_flex (hfl : E.fl = true) (ha : E.flex = true → RsC E m y sem ca) (hb : E.flex = false → RsC E m y sem cb) (hsl : rsl E m [t] [9, y] = true) :
    RsC E m y sem (.seq (.region r0 #[⟨some t, .move (.tmp 9), y0, q0, e0, none⟩] false) (.cond (.tmp t) ca cb)) := by
  obtain ⟨hm, hw, hr, hnd⟩ := zaO hsl
  simp only [List.mem_cons, List.not_mem_nil, or_false, forall_eq, forall_eq_or_imp] at hw hr
  intro a w O R b st v0 hB gy hO hne hbl
  have hN := hB.ok.1
  refine wp_seq_k fun K hK => ?_
  refine zah ?_
  refine zav ?_
  rw [zac, hB.ok.2.2.2.2 hfl]
  refine zad (hK _ _ ?_)
  have hk : zaA (RS m) a (a.put (some t) (.bool E.flex)) := (zaA.refl _ _).put hw.1 _
  cases hx : E.flex with
  | true =>
    rw [hx] at hk
    exact wp_cond_true (by rw [zac, zaa (by rw [hN]; exact hw.2.1)]) (rs_go ⟨hm, hr.2⟩ (ha hx) hB gy hO hne hbl hk)
  | false =>
    rw [hx] at hk
    exact wp_cond_false (by rw [zac, zaa (by rw [hN]; exact hw.2.1)]) (rs_go ⟨hm, hr.2⟩ (hb hx) hB gy hO hne hbl hk)
theorem rs_safe (h : RsC E m y sem c) (hsl : rsl E m [t] [2, y] = true) : RsC E m y sem (.seq (.region r0 #[⟨some t, .move (.tmp 2), y0, q0, e0, none⟩] false) (.cond (.tmp t) cu c)) := by
  obtain ⟨hm, hw, hr, hnd⟩ := zaO hsl
  simp only [List.mem_cons, List.not_mem_nil, or_false, forall_eq, forall_eq_or_imp] at hw hr
  intro a w O R b st v0 hB gy hO hne hbl
  have hN := hB.ok.1
  refine wp_seq_k fun K hK => ?_
  refine zah ?_
  refine zav ?_
  rw [zac, hB.ok.2.2.1]
  refine zad (hK _ _ ?_)
  exact wp_cond_false (by rw [zac, zaa (by rw [hN]; exact hw.2.1)]) (rs_go ⟨hm, hr.2⟩ h hB gy hO hne hbl ((zaA.refl _ _).put hw.1 _))
theorem rs_call {s : Bool} (hen : zaW Tryz.prog fn) (hc : RdF fn [] (rStr s) outS) (hx : E.flex = s) (hsl : rsl E m [t1] [7, y] = true) :
    RsC E m y (rStr E.flex) (.region r0 #[⟨some t1, .call { callee := .value (.func fn), args := #[.tmp 7], argTypes := us }, y0, q0, e0, none⟩, ⟨none, .store 9 (.tmp y) (.tmp t1), y1, q1, e1, none⟩] false) := by
  obtain ⟨hm, hw, hr, hnd⟩ := zaO hsl
  simp only [List.mem_cons, List.not_mem_nil, or_false, forall_eq_or_imp, forall_eq] at hw hr
  intro a w O R b st v0 hB gy hO hne hb
  have hN := hB.ok.1
  have hyt : t1 ≠ y := fun e => hw.1 (e ▸ hr.2)
  rw [hx]
  refine zah ?_
  refine wl_rd hen hc (by simp only [List.map_toArray, List.map_cons, List.map_nil, zac, hB.rd]) hB.rs (fun h => h hB.oR) hB.new ?_
  intro v w1 hq
  obtain ⟨l, ho, k2⟩ := hq.val
  have ho' : v = .string ⟨l.toArray⟩ := ho
  subst ho'
  have hb1 : Blk w1 b [v0] 9 := hb.chg hq.chg fun e => hne e.symm
  refine za6 (b := b) (o := 0) (n := 1) (v := .string ⟨l.toArray⟩) (by kernel_rfl) (by rw [zac, zab hyt]; exact gy) (by rw [zac, zaa (by rw [hN]; exact hw.2.1)]) hb1 rfl (by intro u hu; simp only [Value.cells, List.mem_singleton] at hu; subst hu; rfl) (by simp) fun w2 hb2 hc2 => ?_
  refine zad ?_
  have hX : ∀ k, ¬ O k → k < w1.heap.size → ¬ k = b := fun k hk _ e => hk (e ▸ hO)
  exact ⟨(zaA.refl _ _).put hw.1 _, (hq.chg.mono fun _ _ h => Or.inl h).trans (hc2.mono fun _ _ h => Or.inr h) fun _ _ h => h, hq.rd.stay (Stay.of hc2 hX) (hc2.block R hq.rd.lt hne), (less_str s).st st, l, hb2, k2⟩
theorem rs_string (hx : E.flex = false) (hsl : rsl E m [t1] [7, y] = true) : RsC E m y (rStr E.flex) (.region r0 #[⟨some t1, .call { callee := .value (.func 57), args := #[.tmp 7], argTypes := us }, y0, q0, e0, none⟩, ⟨none, .store 9 (.tmp y) (.tmp t1), y1, q1, e1, none⟩] false) :=
  rs_call (fun args w => Tryz.call57 args w) String_c hx hsl
theorem rs_cstring (hx : E.flex = true) (hsl : rsl E m [t1] [7, y] = true) : RsC E m y (rStr E.flex) (.region r0 #[⟨some t1, .call { callee := .value (.func 55), args := #[.tmp 7], argTypes := us }, y2, q2, e2, none⟩, ⟨none, .store 9 (.tmp y) (.tmp t1), y3, q3, e3, none⟩] false) :=
  rs_call (fun args w => Tryz.call55 args w) CompactString_c hx hsl
theorem rv_otextA (h : decide (0 ≤ a3) = true) (hv : E.ver < a3) (hc : RsC E (y + 1) y (rStr E.flex) c) (hsl : rsl E m [y, x] [] = true) (h6 : decide (y ≠ 6) = true) :
    RvC E m x (.mk .text a1 a2 a3 a4 a5 of sub) (decF E.flex E.ver (.mk .text a1 a2 a3 a4 a5 of sub)) (.seq (.region r0 #[⟨some y, .alloc 9, y4, q4, e4, none⟩] false) (.seq c (.region r1 #[⟨some x, .assign (.tmp y), y5, q5, e5, none⟩] false))) := by
  obtain ⟨hm, hw, hr, hnd⟩ := zaO hsl
  simp only [List.mem_cons, List.not_mem_nil, or_false, forall_eq_or_imp, forall_eq, List.nodup_cons, not_or, List.nodup_nil, and_true, not_false_eq_true] at hw hnd
  have a3n : 0 ≤ a3 := of_decide_eq_true h
  have hmy : m ≤ y := hw.1.2.2
  have hlow : Low E (y + 1) := ⟨by have := hm.1; omega, fun e => by have := hm.2 e; omega⟩
  have hdec : decF E.flex E.ver (.mk .text a1 a2 a3 a4 a5 of sub) = fun bs => (rStr E.flex bs).map fun z => (.nstr (some z.1), z.2) := by
    funext bs
    unfold decF; dsimp only; rw [if_neg (by omega), if_pos hv]
  rw [hdec]
  intro a w O R st hB
  have hN := hB.ok.1
  refine wp_seq_k fun K hK => ?_
  refine zah ?_
  refine za4 (z := .string ⟨#[]⟩) (fun w => Tryz.zeroValue9 w) fun w1 hc1 hb1 hs1 => ?_
  refine zad (hK _ _ ?_)
  clear hK K
  have hgE : gE ≠ w.heap.size := by
    intro e
    obtain ⟨_, _, _, h2⟩ := hB.err
    have : w.heap[gE]? = none := by rw [Array.getElem?_eq_none]; omega
    simp [ldOK, World.cell?, this] at h2
  have hR := hB.rs.lt
  have hk1 : zaA (RS m) a (a.put (some y) (.pointer (some ⟨w.heap.size, 0, none⟩))) := (zaA.refl _ _).put hw.1.1 _
  have hB1 : RB E (a.put (some y) (.pointer (some ⟨w.heap.size, 0, none⟩))) w1 (fun g => O g ∨ g = w.heap.size) R st := by
    have hx := hB.next hm hk1 hc1 (fun k h => h.elim) (hB.rs.stay (Stay.of hc1 fun _ _ _ h => h) (hc1.block R hR fun h => h)) (Nat.le_refl _)
    refine ⟨hx.ok, hx.rd, hB.rs.stay ⟨fun k hk hg => ⟨hc1.block k hk fun h => h, fun h => ?_⟩⟩ (hc1.block R hR fun h => h), .inl hx.oR, fun h => ?_, hx.err, fun k hk h => ?_, hx.lim⟩
    · rcases h with h | h
      · exact hg h
      · omega
    · rcases h with h | h
      · exact hx.oE h
      · exact hgE h
    · rcases h with h | h
      · exact hx.new k hk h
      · omega
  refine wp_seq (wp_mono (hc _ w1 (fun g => O g ∨ g = w.heap.size) R w.heap.size st _ hB1 (zaa (by rw [hN]; exact hw.1.2.1)) (.inr rfl) (by omega) hb1) ?_)
  intro e a2 w2 hq
  cases e <;> try exact hq.elim
  obtain ⟨q1, q2, q3, q4, l, q5, q6⟩ := hq
  have hN2 : a2.tmps.size = E.N := q1.size.trans hB1.ok.1
  refine zah ?_
  refine zam ?_
  rw [zac, q1.slot y ⟨by omega, of_decide_eq_true h6⟩, zaa (by rw [hN]; exact hw.1.2.1)]
  refine zad ?_
  have hl : ∀ st : Option Bs, st.bind (fun bs => (rStr E.flex bs).map fun z => (D.nstr (some z.1), z.2)) = (st.bind (rStr E.flex)).map fun z => (D.nstr (some z.1), z.2) := fun st => by cases st <;> rfl
  have he : (st.bind (fun bs => (rStr E.flex bs).map fun z => (D.nstr (some z.1), z.2))).map (·.2) = (st.bind (rStr E.flex)).map (·.2) := by rw [hl, Option.map_map]; rfl
  have hst2 : Stay w2 w2 (fun g => ¬ (O g ∨ g = w.heap.size)) (fun g => ¬ O g) := Stay.sub fun k _ h => fun h2 => h (.inl h2)
  refine ⟨(hk1.trans (q1.mono fun t ht => ⟨by have := ht.1; omega, ht.2⟩)).put hw.2.1 _, (hc1.mono (Y := fun k => k = R) fun _ _ h => h.elim).trans q2 fun k hk h => ?_, by rw [he]; exact q3.stay hst2 rfl, by rw [he]; exact q4, .nstr (some l), _, zaa (by rw [hN2]; exact hw.2.2.1), rfl, rfl, ?_, fun z hz => ?_⟩
  · rcases h with h | h
    · exact h
    · omega
  · unfold RepF
    dsimp only
    rw [if_neg (by omega)]
    exact ⟨w.heap.size, _, _, rfl, hB.new _ (Nat.le_refl _), q5, rfl⟩
  · rw [hl] at hz
    cases hb : st.bind (rStr E.flex) with
    | none => rw [hb] at hz; cases hz
    | some u =>
      rw [hb] at hz
      simp only [Option.map_some, Option.some.injEq] at hz
      rw [← hz, q6 u hb]
end
end Go.Proofs.YtkodgaelpllhgaaGreatDoorR
namespace Go.Proofs.YtkodgaelpllhgaaGreatDoorR
set_option linter.all false
open Go.RowKit
set_option maxRecDepth 10000
set_option maxHeartbeats 2000000
section
variable {y0 y1 y2 y3 y4 y5 y6 y7 y8 y9 y10 y11 y12 y13 y14 y15 y16 y17 y18 y19 y20 y21 y22 y23 y24 y25 y26 y27 y28 y29 y30 y31 y32 y33 y34 y35 y36 y37 y38 y39 : TypeId} {q0 q1 q2 q3 q4 q5 q6 q7 q8 q9 q10 q11 q12 q13 q14 q15 q16 q17 q18 q19 q20 q21 q22 q23 q24 q25 q26 q27 q28 q29 q30 q31 q32 q33 q34 q35 q36 q37 q38 q39 : String} {e0 e1 e2 e3 e4 e5 e6 e7 e8 e9 e10 e11 e12 e13 e14 e15 e16 e17 e18 e19 e20 e21 e22 e23 e24 e25 e26 e27 e28 e29 e30 e31 e32 e33 e34 e35 e36 e37 e38 e39 : Array Edge} {r0 r1 r2 r3 r4 r5 : Nat}
variable {r6 r7 r8 r9 r10 r11 r12 : Nat} {z5 : TypeId} {p5 : String} {j5 : Array Edge}
variable {E : REnv} {m sS k0 i x y ys t1 t2 t3 t4 t5 t6 u u1 u2 u3 u4 v1 v2 v3 v4 v5 v6 v7 : Nat} {fs sub : List Fld} {c : Code} {us us2 us3 : Array TypeId} {fn : FuncId} {T T2 idx tp : Nat} {a1 a2 a3 a4 a5 : Int} {of : K}
end
end Go.Proofs.YtkodgaelpllhgaaGreatDoorR
