import Derived.Test.YtkodgaelpllhgabGreatDoorRZD
/-
What the proofs of the laws rest on, part ZE.
-/
namespace Go.Proofs.YtkodgaelpllhgabGreatDoorR
set_option linter.all false
open Go.RowKit
set_option maxRecDepth 10000
set_option maxHeartbeats 1000000
section
variable {y0 y1 y2 y3 y4 y5 y6 y7 y8 y9 y10 y11 y12 y13 y14 y15 y16 y17 y18 y19 y20 y21 y22 y23 y24 y25 y26 y27 y28 y29 y30 y31 y32 y33 y34 y35 y36 y37 y38 y39 : TypeId} {q0 q1 q2 q3 q4 q5 q6 q7 q8 q9 q10 q11 q12 q13 q14 q15 q16 q17 q18 q19 q20 q21 q22 q23 q24 q25 q26 q27 q28 q29 q30 q31 q32 q33 q34 q35 q36 q37 q38 q39 : String} {e0 e1 e2 e3 e4 e5 e6 e7 e8 e9 e10 e11 e12 e13 e14 e15 e16 e17 e18 e19 e20 e21 e22 e23 e24 e25 e26 e27 e28 e29 e30 e31 e32 e33 e34 e35 e36 e37 e38 e39 : Array Edge} {r0 r1 r2 r3 r4 r5 : Nat}
variable {E : REnv} {m aS iS x t1 t2 t3 t4 ty tyE : Nat} {of : K} {sub : List Fld} {c : Code}
theorem el_val1 {zc : List Value} (hty : (decide (of ≠ .struct) && decide (of ≠ .list) && decide (ksz of = 1) && sliceB Tryz.prog ty 1 && sizeB Tryz.prog tyE 1) = true) (h : RvC E m x (kfR of) (rK of E.flex) c)
    (s1 : rsl E m [t1, t2, t3, t4] [7, aS, iS] = true) (s2 : [t1, t2, t3, t4].all (fun t => decide (t ≠ x)) = true) :
    ElC E m aS iS (eszR E of sub) (oneR E of sub) (repR E of sub) zc
      (.seq c (.region r0 #[⟨some t1, .move (.tmp aS), y0, q0, e0, none⟩, ⟨some t2, .move (.tmp iS), y1, q1, e1, none⟩, ⟨some t3, .move (.tmp x), y2, q2, e2, none⟩, ⟨some t4, .indexAddr ty (.tmp t1) (.tmp t2), y3, q3, e3, none⟩, ⟨none, .store tyE (.tmp t4) (.tmp t3), y4, q4, e4, none⟩] false)) := by
  have e : eszR E of sub = ksz of := by
    cases of <;> first | rfl | (exfalso; simp at hty)
  rw [e]
  exact el_val hty h s1 s2
end
section
variable {y0 y1 y2 y3 y4 y5 y6 y7 y8 y9 y10 y11 y12 y13 y14 y15 y16 y17 y18 y19 y20 y21 y22 y23 y24 y25 y26 y27 y28 y29 y30 y31 y32 y33 y34 y35 y36 y37 y38 y39 : TypeId} {q0 q1 q2 q3 q4 q5 q6 q7 q8 q9 q10 q11 q12 q13 q14 q15 q16 q17 q18 q19 q20 q21 q22 q23 q24 q25 q26 q27 q28 q29 q30 q31 q32 q33 q34 q35 q36 q37 q38 q39 : String} {e0 e1 e2 e3 e4 e5 e6 e7 e8 e9 e10 e11 e12 e13 e14 e15 e16 e17 e18 e19 e20 e21 e22 e23 e24 e25 e26 e27 e28 e29 e30 e31 e32 e33 e34 e35 e36 e37 e38 e39 : Array Edge} {r0 r1 r2 r3 r4 r5 : Nat}
variable {E : REnv} {m sS k0 i I x y t1 t2 t3 t4 t5 T ty idx : Nat} {us : Array TypeId} {f : Fld} {fs : List Fld} {pre : S → Prop} {sem : Bs → Option (D × Bs)} {fn : FuncId} {a1 a2 a3 a4 a5 : Int} {of : K} {sub : List Fld} {c : Code}
theorem rf_uuid2 (hf : fs[i]? = some (.mk .uuid a1 a2 a3 a4 a5 of sub)) (hF : (zbj Tryz.prog T idx (k0 + foff E.fl fs i) 16 && sizeB Tryz.prog ty 16) = true) (hsl0 : rsl E m [t5, x] [7] = true) (hux : decide (t5 ≠ x) = true) (hsl : rsl E m [t1, t2, t3, t4] [sS, 7] = true) (hx : [t1, t2, t3, t4].all (fun t => decide (t ≠ x)) = true) :
    RdC E m sS k0 fs (i + 1) pre (semSet i (decF E.flex E.ver (.mk .uuid a1 a2 a3 a4 a5 of sub))) (.seq (.region r1 #[⟨some t5, .call { callee := .value (.func 77), args := #[.tmp 7], argTypes := us }, y0, q0, e0, none⟩, ⟨some x, .alloc 79, y1, q1, e1, none⟩, ⟨none, .store 79 (.tmp x) (.tmp t5), y2, q2, e2, none⟩] false)
      (.region r0 #[⟨some t1, .move (.tmp sS), y3, q3, e3, none⟩, ⟨some t2, .load 79 (.tmp x), y4, q4, e4, none⟩, ⟨some t3, .nilCheck (.tmp t1), y5, q5, e5, none⟩, ⟨some t4, .fieldAddr T (.tmp t3) idx, y6, q6, e6, none⟩, ⟨none, .store ty (.tmp t4) (.tmp t2), y7, q7, e7, none⟩] false)) := by
  simp only [Bool.and_eq_true] at hF
  obtain ⟨f2, f3⟩ := hF
  obtain ⟨hm0, hw0, hr0, hnd0⟩ := zaZ hsl0
  simp only [List.mem_cons, List.not_mem_nil, or_false, forall_eq_or_imp, forall_eq, List.nodup_cons, not_or, List.nodup_nil, and_true, not_false_eq_true] at hw0 hnd0 hr0
  obtain ⟨hm, hw, hr, hnd⟩ := zaZ hsl
  simp only [List.mem_cons, List.not_mem_nil, or_false, forall_eq_or_imp, forall_eq, List.nodup_cons, not_or, List.nodup_nil, and_true, not_false_eq_true, List.all_cons, List.all_nil, Bool.and_true, Bool.and_eq_true, decide_eq_true_eq] at hw hnd hr hx
  intro a w O R B p st s hB hP _
  have hNa := hB.ok.1
  refine wp_seq_k fun K hK => ?_
  refine zah ?_
  refine wl_rd (fun args w => Tryz.call77 args w) Uuid_c (by simp only [List.map_toArray, List.map_cons, List.map_nil, zac, hB.rd]) hB.rs (fun h => h hB.oR) hB.new ?_
  intro v w0 hq0
  obtain ⟨l, ⟨rfl, hl16⟩, k2⟩ := hq0.val
  refine zbd (z := zaS (List.replicate 16 (.int .u8 0))) (fun w => Tryz.zeroValue79 w) fun w1a hc1a hb1a hs1a => ?_
  have h5x : t5 ≠ x := of_decide_eq_true hux
  refine zbe (b := w0.heap.size) (n := 16) (l' := l.map zaH) (by kernel_rfl) (by simp only [zac, zaa, zad, hNa, hw0]) (by
    simp only [zac, zab (Ne.symm h5x), zaa, zad, hNa, hw0]; rfl) hb1a (by simpa using hl16) (by intro u hu; obtain ⟨z, _, rfl⟩ := List.mem_map.1 hu; rfl) (by simp [zaS, Value.cells]) fun w1 hbx hc1b => ?_
  refine zae (hK _ _ ?_)
  clear hK K
  have hck : Chg (fun _ => False) w0 w1 := hc1a.trans hc1b fun n hn e => by omega
  have hR0 := hq0.rd.lt
  have hqchg : Chg (fun k => k = R) w w1 := hq0.chg.trans hck fun _ _ h => h.elim
  have hqrd := hq0.rd.stay (Stay.of hck fun _ _ _ h => h) (hck.block R hR0 (fun h => h))
  have q1 : zaG (RS m) a ((a.put (some t5) (.agg (l.map zaH).toArray)).put (some x) (.pointer (some ⟨w0.heap.size, 0, none⟩))) := ((zaG.refl _ _).put hw0.1.1 _).put hw0.2.1 _
  have q5 : get ((a.put (some t5) (.agg (l.map zaH).toArray)).put (some x) (.pointer (some ⟨w0.heap.size, 0, none⟩))) x = .pointer (some ⟨w0.heap.size, 0, none⟩) := zaa (by rw [zad, hNa]; exact hw0.2.2.1)
  change Code.wp _ _ _ ((a.put (some t5) (.agg (l.map zaH).toArray)).put (some x) (.pointer (some ⟨w0.heap.size, 0, none⟩))) w1
  generalize ((a.put (some t5) (.agg (l.map zaH).toArray)).put (some x) (.pointer (some ⟨w0.heap.size, 0, none⟩))) = ac at q1 q5 ⊢
  have hN : ac.tmps.size = E.N := q1.size.trans hNa
  have hs : get ac sS = .pointer (some ⟨B, p, none⟩) := (q1.slot _ hr.1).trans hP.pt
  obtain ⟨cs, Tb, c1, c2⟩ := hP.at_
  have hfs : fsz E.fl (.mk .uuid a1 a2 a3 a4 a5 of sub) = 16 := rfl
  have hfo : foff E.fl fs i + 16 ≤ lsz E.fl fs := by
    obtain ⟨_, v1, v2, g3, g4, g5⟩ := c2
    obtain ⟨_, _, _, h6⟩ := g4.get hf
    have := g4.len.1
    omega
  have hsz : lsz E.fl fs ≤ ssz E.fl fs := by unfold ssz; omega
  have hb1 : Blk w1 B cs Tb := c1.chg hqchg (fun e => hP.ne e.symm)
  have e : (decF E.flex E.ver (.mk .uuid a1 a2 a3 a4 a5 of sub)) = fun bs => (take? 16 bs).map fun y => (.uuid y.1, y.2) := by
    funext bs; unfold decF; rfl
  rw [e]
  have hl : ∀ st : Option Bs, st.bind (fun bs => (take? 16 bs).map fun y => (D.uuid y.1, y.2)) = (st.bind (take? 16)).map fun y => (D.uuid y.1, y.2) := fun st => by cases st <;> rfl
  have he : (st.bind (fun bs => (take? 16 bs).map fun y => (D.uuid y.1, y.2))).map (·.2) = (st.bind (take? 16)).map (·.2) := by rw [hl, Option.map_map]; rfl
  have hvc : (Value.agg (l.map zaH).toArray).cells.toList = l.map zaH := by simp [Value.cells]
  refine zah ?_
  refine zau ?_
  rw [zac, hs]
  refine za1 (b := w0.heap.size) (o := 0) (n := 16) (by kernel_rfl) (by kernel_rfl) (by rw [zac, zab hx.1, q5]) hbx (by simp [hl16]) ?_
  have e16 : ((l.map zaH).drop 0).take 16 = l.map zaH := by rw [List.drop_zero]; exact List.take_of_length_le (by simp [hl16])
  rw [e16]
  refine zaR (p := ⟨B, p, none⟩) (by simp only [zac, zaa, zab, zaf, ne_eq, zad, hN, hnd, hw, not_false_eq_true]) ?_
  refine zaQ (b := B) (o := p) f2 (by simp only [zac, zaa, zab, zaf, ne_eq, zad, hN, hnd, hw, not_false_eq_true]) ?_
  refine zba (b := B) (o := p + (k0 + foff E.fl fs i)) (n := 16) (v := .agg (l.map zaH).toArray) f3 (by simp only [zac, zaa, zab, zaf, ne_eq, zad, hN, hnd, hw, not_false_eq_true]) (by simp only [zac, zaa, zab, zaf, ne_eq, zad, hN, hnd, hw, not_false_eq_true]) hb1 (by simp [Value.cells, hl16])
    (by intro u hu; rw [hvc] at hu; obtain ⟨z, _, rfl⟩ := List.mem_map.1 hu; rfl) (by have := c1.lt; omega) fun w2 hb2 hc2 => ?_
  rw [hvc] at hb2
  refine zae ?_
  rw [show p + (k0 + foff E.fl fs i) = p + k0 + foff E.fl fs i by omega] at hb2
  exact set_field hP hB hf ((((q1.put hw.1.1 _).put hw.2.1.1 _).put hw.2.2.1.1 _).put hw.2.2.2.1 _) hqchg (by rw [he]; exact hqrd) (by rw [he]; exact (less_take 16).st st) (d := .uuid l) (vs := l.map zaH) (by unfold RepF; exact ⟨hl16, rfl⟩) (by rw [hfs]; simpa using hl16) (fun z hz => by
    rw [hl] at hz
    cases hb : st.bind (take? 16) with
    | none => rw [hb] at hz; cases hz
    | some u =>
      rw [hb] at hz
      simp only [Option.map_some, Option.some.injEq] at hz
      rw [← hz, k2 u hb]) c1 hb2 hc2
end
end Go.Proofs.YtkodgaelpllhgabGreatDoorR
namespace Go.Proofs.YtkodgaelpllhgabGreatDoorR
set_option linter.all false
open Go.RowKit
set_option maxRecDepth 10000
set_option maxHeartbeats 2000000
section
variable {y0 y1 y2 y3 y4 y5 y6 y7 y8 y9 y10 y11 y12 y13 y14 y15 y16 y17 y18 y19 y20 y21 y22 y23 y24 y25 y26 y27 y28 y29 y30 y31 y32 y33 y34 y35 y36 y37 y38 y39 : TypeId} {q0 q1 q2 q3 q4 q5 q6 q7 q8 q9 q10 q11 q12 q13 q14 q15 q16 q17 q18 q19 q20 q21 q22 q23 q24 q25 q26 q27 q28 q29 q30 q31 q32 q33 q34 q35 q36 q37 q38 q39 : String} {e0 e1 e2 e3 e4 e5 e6 e7 e8 e9 e10 e11 e12 e13 e14 e15 e16 e17 e18 e19 e20 e21 e22 e23 e24 e25 e26 e27 e28 e29 e30 e31 e32 e33 e34 e35 e36 e37 e38 e39 : Array Edge} {r0 r1 r2 r3 r4 r5 : Nat}
variable {r6 r7 r8 r9 r10 r11 r12 r13 r14 : Nat}
variable {y40 y41 y42 y43 y44 y45 y46 y47 y48 y49 y50 y51 y52 y53 y54 : TypeId} {q40 q41 q42 q43 q44 q45 q46 q47 q48 q49 q50 q51 q52 q53 q54 : String} {e40 e41 e42 e43 e44 e45 e46 e47 e48 e49 e50 e51 e52 e53 e54 : Array Edge}
variable {E : REnv} {m mB sS k0 i I x y ys aS iS lS vS t1 t2 t3 t4 t5 t6 t7 t8 t9 t10 t11 t12 w1' w2' w3' w4' w5' u1 u2 u3 u4 u5 v1 v2 v3 v4 b1 b2 ug uo uc ui n1 n2 n3 n4 n5 n6 n7 un1 un2 : Nat} {fs sub : List Fld} {pre : S → Prop} {c body cl : Code} {us us2 us3 : Array TypeId} {fn : FuncId} {T ty ti idx ua : Nat} {a1 a2 a3 a4 a5 : Int} {of : K} {z : Value}
variable {z4 z5 : TypeId} {p4 p5 : String} {j4 j5 : Array Edge}
end
end Go.Proofs.YtkodgaelpllhgabGreatDoorR
namespace Go.Proofs.YtkodgaelpllhgabGreatDoorR
set_option linter.all false
open Go.RowKit
set_option maxRecDepth 10000
set_option maxHeartbeats 2000000
def DefI (fl : Bool) (fn : FuncId) (sub : List Fld) : Prop := ∀ (w : World) (G : Nat → Prop) (b off : Nat) (cs : List Value) (T : TypeId), Blk w b cs T → ¬ G b → off + ssz fl sub ≤ cs.length → RepS w G fl sub ⟨dfltL sub, []⟩ ((cs.drop off).take (ssz fl sub)) →
  zaF Tryz.prog fn #[.pointer (some ⟨b, off, none⟩)] w fun _ w' => Chg (fun k => k = b) w w' ∧ ∃ cs', Blk w' b cs' T ∧ cs'.length = cs.length ∧ (∀ j, (j < off ∨ off + ssz fl sub ≤ j) → cs'[j]? = cs[j]?) ∧ RepS w' G fl sub ⟨dfltL sub, []⟩ ((cs'.drop off).take (ssz fl sub))
theorem defI_of {fl : Bool} {fn : FuncId} {sub : List Fld} (h : ∀ zc, DefC fn zc zc) : DefI fl fn sub := by
  intro w G b off cs T hb hG hl hr
  have hz : ((cs.drop off).take (ssz fl sub)).length = ssz fl sub := by rw [List.length_take, List.length_drop]; omega
  refine zaF.mono (h _ w b off cs T hb (by rw [hz]; exact hl) (by rw [hz])) ?_
  rintro _ w' ⟨h1, h2⟩
  have e : zaA cs off ((cs.drop off).take (ssz fl sub)) = cs := splice_same (by rw [hz]) (by rw [hz]; exact hl)
  rw [e] at h1
  exact ⟨h2, cs, h1, rfl, fun _ _ => rfl, hr.stay (Stay.of h2 fun k hk _ e => hG (e ▸ hk))⟩
theorem splice_of {cs cs' : List Value} {off n : Nat} (hl : cs'.length = cs.length) (hn : off + n ≤ cs.length) (h : ∀ j, (j < off ∨ off + n ≤ j) → cs'[j]? = cs[j]?) : cs' = zaA cs off ((cs'.drop off).take n) := by
  have hz : ((cs'.drop off).take n).length = n := by rw [List.length_take, List.length_drop]; omega
  apply List.ext_getElem?
  intro j
  by_cases h1 : j < off
  · rw [za4 (by rw [hz]; exact hn) h1, h j (.inl h1)]
  by_cases h2 : off + n ≤ j
  · rw [za3 (by rw [hz]; exact hn) (by rw [hz]; exact h2), h j (.inr h2)]
  obtain ⟨m, rfl⟩ : ∃ m, j = off + m := ⟨j - off, by omega⟩
  rw [splc_mid (by rw [hz]; exact hn) (by rw [hz]; omega), List.getElem?_take_of_lt (by omega), List.getElem?_drop]
section
variable {y0 y1 y2 y3 y4 y5 y6 y7 y8 y9 y10 y11 y12 y13 y14 y15 y16 y17 y18 y19 y20 y21 y22 y23 y24 y25 y26 y27 y28 y29 y30 y31 y32 y33 y34 y35 y36 y37 y38 y39 : TypeId} {q0 q1 q2 q3 q4 q5 q6 q7 q8 q9 q10 q11 q12 q13 q14 q15 q16 q17 q18 q19 q20 q21 q22 q23 q24 q25 q26 q27 q28 q29 q30 q31 q32 q33 q34 q35 q36 q37 q38 q39 : String} {e0 e1 e2 e3 e4 e5 e6 e7 e8 e9 e10 e11 e12 e13 e14 e15 e16 e17 e18 e19 e20 e21 e22 e23 e24 e25 e26 e27 e28 e29 e30 e31 e32 e33 e34 e35 e36 e37 e38 e39 : Array Edge} {r0 r1 r2 r3 r4 r5 : Nat}
variable {r6 r7 r8 r9 r10 r11 r12 : Nat}
variable {E : REnv} {m mB sS k0 i I x y ys t1 t2 t3 t4 t5 t6 : Nat} {fs sub : List Fld} {c : Code} {us : Array TypeId} {fn : FuncId} {T idx : Nat} {a1 a2 a3 a4 a5 : Int} {of : K}
theorem rf_innerG (hf : fs[i]? = some (.mk .struct a1 a2 a3 a4 a5 of sub)) (hF : (decide (a3 < 0) && zbj Tryz.prog T idx (k0 + foff E.fl fs i) (ssz E.fl sub)) = true) (hen : zaY Tryz.prog fn) (hdef : DefI E.fl fn sub)
    (h : RdC E mB ys 0 sub I (Fresh sub 0) (semL E sub 0 (tlP E sub)) c) (s1 : rsl E m [t1, t2, t3, y, t4, t5, t6, ys] [sS, 7] = true) (s2 : decide (m ≤ mB) = true) (s3 : rsl E mB [] [ys] = true) :
    RdC E m sS k0 fs (i + 1) (Fresh fs i) (semSet i (decF E.flex E.ver (.mk .struct a1 a2 a3 a4 a5 of sub)))
      (.seq (.region r0 #[⟨some t1, .move (.tmp sS), y0, q0, e0, none⟩, ⟨some t2, .nilCheck (.tmp t1), y1, q1, e1, none⟩, ⟨some t3, .fieldAddr T (.tmp t2) idx, y2, q2, e2, none⟩, ⟨some y, .assign (.tmp t3), y3, q3, e3, none⟩] false)
        (.seq (.region r1 #[⟨some t4, .move (.tmp y), y4, q4, e4, none⟩, ⟨some t5, .call { callee := .value (.func fn), args := #[.tmp t4], argTypes := us }, y5, q5, e5, none⟩] false)
          (.seq (.region r2 #[⟨some t6, .move (.tmp y), y6, q6, e6, none⟩, ⟨some ys, .assign (.tmp t6), y7, q7, e7, none⟩] false) c))) := by
  simp only [Bool.and_eq_true, decide_eq_true_eq] at hF s2
  obtain ⟨f1, f2⟩ := hF
  obtain ⟨hm, hw, hr, hnd⟩ := zaZ s1
  have hnr := nodup_rev hnd
  simp only [List.reverse_cons, List.reverse_nil, List.nil_append, List.cons_append, List.mem_cons, List.not_mem_nil, or_false, List.nodup_cons, not_or, List.nodup_nil, and_true, not_false_eq_true] at hnr
  simp only [List.mem_cons, List.not_mem_nil, or_false, forall_eq_or_imp, forall_eq, List.nodup_cons, not_or, List.nodup_nil, and_true, not_false_eq_true] at hw hnd hr
  intro a w O R B p st s hB hP hpre
  have hN := hB.ok.1
  have ev : ∀ {d t : Nat} {a : Act} {v : Value}, d < a.tmps.size → get (a.put (some d) v) t = if d = t then v else get a t := fun h => get_put h
  have hfs : fsz E.fl (.mk .struct a1 a2 a3 a4 a5 of sub) = ssz E.fl sub := by unfold fsz; dsimp only; rw [if_pos f1]; rfl
  obtain ⟨d, cs, Tb, k1, k2, k3, k4⟩ := hP.at_.field hf
  have hd : d = .struct (dfltL sub) [] := by
    have := hpre i _ (Nat.le_refl _) hf
    rw [k1] at this
    simp only [Option.some.injEq] at this
    rw [this]
    unfold dfltF
    dsimp only
    rw [if_pos f1]
  rw [hfs] at k3 k4
  have k5 : RepS w (fun g => ¬ O g) E.fl sub ⟨dfltL sub, []⟩ ((cs.drop (p + k0 + foff E.fl fs i)).take (ssz E.fl sub)) := by
    unfold RepF at k4
    dsimp only at k4
    rw [if_pos f1, hd] at k4
    obtain ⟨⟨ds0, tg0⟩, g1, v1, v2, g2, g3, g4⟩ := k4
    simp only [S.d, D.struct.injEq] at g1
    obtain ⟨rfl, rfl⟩ := g1
    exact ⟨v1, v2, g2, g3, g4⟩
  obtain ⟨q, hq⟩ : ∃ q, q = p + (k0 + foff E.fl fs i) := ⟨_, rfl⟩
  have hq' : p + k0 + foff E.fl fs i = q := by omega
  rw [hq'] at k3 k5
  refine wp_seq_k fun K hK => ?_
  refine zah ?_
  refine zau ?_
  rw [zac, hP.pt]
  refine zaR (p := ⟨B, p, none⟩) (by simp only [zac, ev, zad, hN, hw, hnd, hnr, if_true, if_false]) ?_
  refine zaQ (b := B) (o := p) f2 (by simp only [zac, ev, zad, hN, hw, hnd, hnr, if_true, if_false]) ?_
  rw [← hq]
  refine zam ?_
  simp only [zac, ev, zad, hN, hw, if_true]
  refine zae (hK _ _ ?_)
  clear hK K
  refine wp_seq_k fun K hK => ?_
  refine zah ?_
  refine zau ?_
  simp only [zac, ev, zad, hN, hw, if_true]
  refine zaB hen (by simp only [List.map_toArray, List.map_cons, List.map_nil, zac, ev, zad, hN, hw, if_true]; exact hdef w (fun g => ¬ O g) B q cs Tb k2 (fun h => h hP.oB) k3 k5) ?_
  rintro vd w1 ⟨hc1, cs1, hb1, hl1, ho1, hr1⟩
  refine zae (hK _ _ ?_)
  clear hK K
  refine wp_seq_k fun K hK => ?_
  refine zah ?_
  refine zau ?_
  simp only [zac, ev, zad, hN, hw, hnd, hnr, if_true, if_false]
  refine zam ?_
  simp only [zac, ev, zad, hN, hw, hnd, hnr, if_true, if_false]
  refine zae (hK _ _ ?_)
  clear hK K
  have hXb : ∀ k, ¬ O k → k < w.heap.size → ¬ k = B := fun k hk _ e => hk (e ▸ hP.oB)
  have hrs1 : RdS w1 (fun g => ¬ O g) R st := hB.rs.stay (Stay.of hc1 hXb) (hc1.block R hB.rs.lt hP.ne)
  obtain ⟨a8, ha8⟩ : ∃ a8, a8 = (((((((a.put (some t1) (.pointer (some ⟨B, p, none⟩))).put (some t2) (.pointer (some ⟨B, p, none⟩))).put (some t3) (.pointer (some ⟨B, q, none⟩))).put (some y) (.pointer (some ⟨B, q, none⟩))).put (some t4) (.pointer (some ⟨B, q, none⟩))).put (some t5) vd).put (some t6) (.pointer (some ⟨B, q, none⟩))).put (some ys) (.pointer (some ⟨B, q, none⟩)) := ⟨_, rfl⟩
  rw [← ha8]
  have hk8 : zaG (RS m) a a8 := by
    rw [ha8]
    exact ((((((((zaG.refl _ _).put hw.1.1 _).put hw.2.1.1 _).put hw.2.2.1.1 _).put hw.2.2.2.1.1 _).put hw.2.2.2.2.1.1 _).put hw.2.2.2.2.2.1.1 _).put hw.2.2.2.2.2.2.1.1 _).put hw.2.2.2.2.2.2.2.1 _
  have g8 : get a8 ys = .pointer (some ⟨B, q, none⟩) := by rw [ha8, zaa (by simp only [zad, hN]; exact hw.2.2.2.2.2.2.2.2.1)]
  clear ha8
  have hB8 : RB E a8 w1 O R st := hB.next hm hk8 hc1 (fun k h => by rw [h]; exact hP.oB) hrs1 (Nat.le_refl _)
  have hP8 : RP E ys 0 sub a8 w1 O R B q ⟨dfltL sub, []⟩ := ⟨g8, ⟨_, _, hb1, by rw [hl1]; omega, hr1⟩, hP.oB, hP.ne⟩
  refine wp_mono (h a8 w1 O R B q st ⟨dfltL sub, []⟩ hB8 hP8 (fresh0 sub)) ?_
  intro e a9 w9 hq9
  have hsz : foff E.fl fs i + ssz E.fl sub ≤ lsz E.fl fs := by
    obtain ⟨cs0, T0, g1, g2, v1, v2, g3, g4, g5⟩ := hP.at_
    obtain ⟨_, _, _, h6⟩ := g4.get hf
    have := g4.len.1
    rw [hfs] at h6
    omega
  have hsz2 : lsz E.fl fs ≤ ssz E.fl fs := by unfold ssz; omega
  have esem : ∀ bs, (decF E.flex E.ver (.mk .struct a1 a2 a3 a4 a5 of sub)) bs = (decPart E.flex E.ver sub bs).map fun x => (x.1.d, x.2) := by
    intro bs
    unfold decF
    dsimp only
    rw [if_pos f1]; rfl
  have ebind : st.bind (decF E.flex E.ver (.mk .struct a1 a2 a3 a4 a5 of sub)) = st.bind fun b => (decPart E.flex E.ver sub b).map fun x => (x.1.d, x.2) := by
    cases st with
    | none => rfl
    | some bs => rw [Option.bind_some, Option.bind_some, esem]
  cases e <;> try exact hq9.elim
  · obtain ⟨hk, hc, hrest, st1, s1', hs1, ha1, hstp, hl, _⟩ := hq9
    obtain ⟨e1, e2⟩ := hstp.part
    obtain ⟨cs9, h91, h92, h93⟩ := hrest _ _ hb1
    have h94 : ∀ j, (j < q ∨ q + ssz E.fl sub ≤ j) → cs9[j]? = cs[j]? := fun j hj => (h93 j (by omega)).trans (ho1 j hj)
    have hall : Chg (fun k => k = R ∨ k = B) w w9 := (hc1.mono fun _ _ h => Or.inr h).trans hc fun _ _ h => h
    have hsp := splice_of (h92.trans hl1) k3 h94
    obtain ⟨cs0, T0, q1, q2, q3⟩ := ha1
    obtain ⟨rfl, _⟩ := q1.inj h91
    rw [Nat.add_zero] at q3
    refine ⟨hk8.trans (hk.mono fun t ht => ⟨by have := ht.1; omega, ht.2⟩), hall, ?_, st1, _, hs1, at_set hP.at_ hf (d := s1'.d) (vs := (cs0.drop q).take (ssz E.fl sub)) ?_ ?_ k2 ?_ hall (fun k hk _ e => hk (by rcases e with rfl | rfl; exact hB.oR; exact hP.oB)), ?_, hl, fun j hj => ?_⟩
    · intro cs' T' hb'
      obtain ⟨rfl, rfl⟩ := hb'.inj k2
      exact ⟨cs0, h91, h92.trans hl1, fun j hj => h94 j (by omega)⟩
    · unfold RepF
      dsimp only
      rw [if_pos f1]
      exact ⟨s1', rfl, q3⟩
    · rw [hfs, List.length_take, List.length_drop, h92, hl1]; omega
    · rw [hq', ← hsp]; exact h91
    · rw [e1, ← ebind]
      exact stp_set fun y hy => e2 y (by rw [← ebind]; exact hy)
    · show (s.ds.set i _)[j]? = _
      rw [List.getElem?_set_ne (by omega)]
  · obtain ⟨f1', f2', f3, f4⟩ := hq9
    refine ⟨f1', f2', ?_, (hc1.mono fun k _ h => by rw [h]; exact hP.oB : Chg O w w1).trans f4 fun _ _ h => h⟩
    cases st with
    | none => rfl
    | some bs =>
      rw [Option.bind_some] at f3 ⊢
      unfold semSet
      rw [esem, part_sem, f3]; rfl
theorem rf_inner (hf : fs[i]? = some (.mk .struct a1 a2 a3 a4 a5 of sub)) (hF : (decide (a3 < 0) && zbj Tryz.prog T idx (k0 + foff E.fl fs i) (ssz E.fl sub)) = true) (hen : zaY Tryz.prog fn) (hdef : DefI E.fl fn sub)
    (h : RdC E (ys + 1) ys 0 sub sub.length (Fresh sub 0) (semL E sub 0 (tlP E sub)) c) (s1 : rsl E m [t1, t2, t3, y, t4, t5, t6, ys] [sS, 7] = true) (s2 : decide (m ≤ (ys + 1)) = true) (s3 : rsl E (ys + 1) [] [ys] = true) :
    RdC E m sS k0 fs (i + 1) (Fresh fs i) (semSet i (decF E.flex E.ver (.mk .struct a1 a2 a3 a4 a5 of sub)))
      (.seq (.region r0 #[⟨some t1, .move (.tmp sS), y0, q0, e0, none⟩, ⟨some t2, .nilCheck (.tmp t1), y1, q1, e1, none⟩, ⟨some t3, .fieldAddr T (.tmp t2) idx, y2, q2, e2, none⟩, ⟨some y, .assign (.tmp t3), y3, q3, e3, none⟩] false)
        (.seq (.region r1 #[⟨some t4, .move (.tmp y), y4, q4, e4, none⟩, ⟨some t5, .call { callee := .value (.func fn), args := #[.tmp t4], argTypes := us }, y5, q5, e5, none⟩] false)
          (.seq (.region r2 #[⟨some t6, .move (.tmp y), y6, q6, e6, none⟩, ⟨some ys, .assign (.tmp t6), y7, q7, e7, none⟩] false) c))) := by
  exact rf_innerG hf hF hen hdef h s1 s2 s3
theorem wp_defv {a : Act} {w : World} {b off N : Nat} {t1 t2 t3 t6 x T idx k n : Nat} {Q : Exit → Act → World → Prop} (hN : a.tmps.size = N) (hD : a.defers = []) (h0 : get a 0 = .pointer (some ⟨b, off, none⟩))
    (hF : (zbj Tryz.prog T idx k n && decide ((0 :: [t1, t2, t3, x, t6]).Nodup) && [0, t1, t2, t3, x, t6].all (fun t => decide (t < N))) = true)
    (h : ∀ a', a'.tmps.size = N → a'.defers = [] → get a' 0 = .pointer (some ⟨b, off, none⟩) → Q .normal a' w) :
    (Code.seq (.region r0 #[⟨some t1, .move (.tmp 0), y0, q0, e0, none⟩, ⟨some t2, .nilCheck (.tmp t1), y1, q1, e1, none⟩, ⟨some t3, .fieldAddr T (.tmp t2) idx, y2, q2, e2, none⟩, ⟨some x, .assign (.tmp t3), y3, q3, e3, none⟩] false) (.region r1 #[⟨some t6, .move (.tmp x), y4, q4, e4, none⟩] false)).wp Tryz.prog Q a w := by
  simp only [Bool.and_eq_true, decide_eq_true_eq, List.all_eq_true] at hF
  obtain ⟨⟨f1, hnd⟩, hlt⟩ := hF
  simp only [List.nodup_cons, List.mem_cons, List.not_mem_nil, or_false, not_or, List.nodup_nil, and_true, not_false_eq_true, forall_eq_or_imp, forall_eq] at hnd hlt
  refine wp_seq_k fun K hK => ?_
  refine zah ?_
  refine zau ?_
  refine zaR (p := ⟨b, off, none⟩) (by simp only [zac, zaa, zab, zaf, ne_eq, zad, hN, hnd, hlt, not_false_eq_true, h0]) ?_
  refine zaQ (b := b) (o := off) f1 (by simp only [zac, zaa, zab, zaf, ne_eq, zad, hN, hnd, hlt, not_false_eq_true, h0]) ?_
  refine zam ?_
  refine zae (hK _ _ ?_)
  clear hK K
  refine zah ?_
  refine zau ?_
  refine zae (h _ (by simp only [zad, hN]) (by simp only [zag, hD]) ?_)
  simp only [zab, zaf, ne_eq, hnd, not_false_eq_true, h0]
end
section
variable {y0 y1 y2 y3 y4 y5 y6 y7 y8 y9 y10 y11 y12 y13 y14 y15 y16 y17 y18 y19 y20 y21 y22 y23 y24 y25 y26 y27 y28 y29 y30 y31 y32 y33 y34 y35 y36 y37 y38 y39 : TypeId} {q0 q1 q2 q3 q4 q5 q6 q7 q8 q9 q10 q11 q12 q13 q14 q15 q16 q17 q18 q19 q20 q21 q22 q23 q24 q25 q26 q27 q28 q29 q30 q31 q32 q33 q34 q35 q36 q37 q38 q39 : String} {e0 e1 e2 e3 e4 e5 e6 e7 e8 e9 e10 e11 e12 e13 e14 e15 e16 e17 e18 e19 e20 e21 e22 e23 e24 e25 e26 e27 e28 e29 e30 e31 e32 e33 e34 e35 e36 e37 e38 e39 : Array Edge} {r0 r1 r2 r3 r4 r5 : Nat}
variable {E : REnv} {m x t1 : Nat} {us : Array TypeId} {a1 a2 a3 a4 a5 : Int} {of : K} {sub : List Fld}
end
end Go.Proofs.YtkodgaelpllhgabGreatDoorR
namespace Go.Proofs.YtkodgaelpllhgabGreatDoorR
set_option linter.all false
open Go.RowKit
set_option maxRecDepth 10000
set_option maxHeartbeats 1000000
section
variable {y0 y1 y2 y3 y4 y5 y6 y7 y8 y9 y10 y11 y12 y13 y14 y15 y16 y17 y18 y19 y20 y21 y22 y23 y24 y25 y26 y27 y28 y29 y30 y31 y32 y33 y34 y35 y36 y37 y38 y39 : TypeId} {q0 q1 q2 q3 q4 q5 q6 q7 q8 q9 q10 q11 q12 q13 q14 q15 q16 q17 q18 q19 q20 q21 q22 q23 q24 q25 q26 q27 q28 q29 q30 q31 q32 q33 q34 q35 q36 q37 q38 q39 : String} {e0 e1 e2 e3 e4 e5 e6 e7 e8 e9 e10 e11 e12 e13 e14 e15 e16 e17 e18 e19 e20 e21 e22 e23 e24 e25 e26 e27 e28 e29 e30 e31 e32 e33 e34 e35 e36 e37 e38 e39 : Array Edge} {r0 r1 r2 r3 r4 r5 : Nat}
variable {E : REnv} {m x y t t1 t2 : Nat} {us : Array TypeId} {fn : FuncId} {sem : Bs → Option (Bs × Bs)} {c ca cb cu : Code} {a1 a2 a3 a4 a5 : Int} {of : K} {sub : List Fld}
end
end Go.Proofs.YtkodgaelpllhgabGreatDoorR
namespace Go.Proofs.YtkodgaelpllhgabGreatDoorR
set_option linter.all false
open Go.RowKit
set_option maxRecDepth 10000
set_option maxHeartbeats 2000000
section
variable {y0 y1 y2 y3 y4 y5 y6 y7 y8 y9 y10 y11 y12 y13 y14 y15 y16 y17 y18 y19 y20 y21 y22 y23 y24 y25 y26 y27 y28 y29 y30 y31 y32 y33 y34 y35 y36 y37 y38 y39 : TypeId} {q0 q1 q2 q3 q4 q5 q6 q7 q8 q9 q10 q11 q12 q13 q14 q15 q16 q17 q18 q19 q20 q21 q22 q23 q24 q25 q26 q27 q28 q29 q30 q31 q32 q33 q34 q35 q36 q37 q38 q39 : String} {e0 e1 e2 e3 e4 e5 e6 e7 e8 e9 e10 e11 e12 e13 e14 e15 e16 e17 e18 e19 e20 e21 e22 e23 e24 e25 e26 e27 e28 e29 e30 e31 e32 e33 e34 e35 e36 e37 e38 e39 : Array Edge} {r0 r1 r2 r3 r4 r5 : Nat}
variable {r6 r7 r8 r9 r10 r11 r12 : Nat} {z5 : TypeId} {p5 : String} {j5 : Array Edge}
variable {E : REnv} {m sS k0 i x y ys t1 t2 t3 t4 t5 t6 u u1 u2 u3 u4 v1 v2 v3 v4 v5 v6 v7 : Nat} {fs sub : List Fld} {c : Code} {us us2 us3 : Array TypeId} {fn : FuncId} {T T2 idx tp : Nat} {a1 a2 a3 a4 a5 : Int} {of : K}
end
end Go.Proofs.YtkodgaelpllhgabGreatDoorR
