import Derived.Test.YtnjjfpgpookjlaaGreatDoorZD
/-
What the proofs of the laws rest on, part ZE.
-/
namespace Go.Proofs.YtnjjfpgpookjlaaGreatDoor
set_option linter.all false
set_option maxRecDepth 10000
set_option maxHeartbeats 4000000
open Go.RowKit
section
variable {y0 y1 y2 y3 y4 : TypeId} {q0 q1 q2 q3 q4 : String} {e0 e1 e2 e3 e4 : Array Edge} {r0 r1 r2 r3 r4 r5 : Nat}
variable {E : REnv} {m aS iS x t1 t2 t3 t4 ty tyE : Nat} {of : K} {sub : List Fld} {c : Code}
theorem el_val1 {zc : List Value} (hty : (decide (of ≠ .struct) && decide (of ≠ .list) && decide (ksz of = 1) && sliceB Tryz.prog ty 1 && sizeB Tryz.prog tyE 1) = true) (h : RvC E m x (kfR of) (rK of E.flex) c)
  (s1 : rsl E m [t1, t2, t3, t4] [E.rr, aS, iS] = true) (s2 : [t1, t2, t3, t4].all (fun t => decide (t ≠ x)) = true) :
  ElC E m aS iS (eszR E of sub) (oneR E of sub) (repR E of sub) zc
   (.seq c (.region r0 #[⟨some t1, .move (.tmp aS), y0, q0, e0, none⟩, ⟨some t2, .move (.tmp iS), y1, q1, e1, none⟩, ⟨some t3, .move (.tmp x), y2, q2, e2, none⟩, ⟨some t4, .indexAddr ty (.tmp t1) (.tmp t2), y3, q3, e3, none⟩, ⟨none, .store tyE (.tmp t4) (.tmp t3), y4, q4, e4, none⟩] false)) := by
 have e : eszR E of sub = ksz of := by
  cases of <;> first | rfl | (exfalso; simp at hty)
 rw [e]
 exact el_val hty h s1 s2
end
section
variable {y0 y1 y2 y3 y4 y5 y6 y7 : TypeId} {q0 q1 q2 q3 q4 q5 q6 q7 : String} {e0 e1 e2 e3 e4 e5 e6 e7 e16 : Array Edge} {r0 r1 r2 r3 r4 r5 : Nat}
variable {E : REnv} {m sS k0 i I x y t1 t2 t3 t4 t5 T ty idx : Nat} {us : Array TypeId} {f : Fld} {fs : List Fld} {pre : S → Prop} {sem : Bs → Option (D × Bs)} {fn : FuncId} {a1 a2 a3 a4 a5 : Int} {of : K} {sub : List Fld} {c : Code}
theorem rf_uuid2 (hf : fs[i]? = some (.mk .uuid a1 a2 a3 a4 a5 of sub)) (hF : (zbc Tryz.prog T idx (k0 + foff E.fl fs i) 16 && sizeB Tryz.prog ty 16) = true) (hsl0 : rsl E m [t5, x] [E.rr] = true) (hux : decide (t5 ≠ x) = true) (hsl : rsl E m [t1, t2, t3, t4] [sS, E.rr] = true) (hx : [t1, t2, t3, t4].all (fun t => decide (t ≠ x)) = true) :
  RdC E m sS k0 fs (i + 1) pre (zbm i (decF E.flex E.ver (.mk .uuid a1 a2 a3 a4 a5 of sub))) (.seq (.region r1 #[⟨some t5, .call { callee := .value (.func 94), args := #[.tmp E.rr], argTypes := us }, y0, q0, e0, none⟩, ⟨some x, .alloc 106, y1, q1, e1, none⟩, ⟨none, .store 106 (.tmp x) (.tmp t5), y2, q2, e2, none⟩] false)
   (.region r0 #[⟨some t1, .move (.tmp sS), y3, q3, e3, none⟩, ⟨some t2, .load 106 (.tmp x), y4, q4, e4, none⟩, ⟨some t3, .nilCheck (.tmp t1), y5, q5, e5, none⟩, ⟨some t4, .fieldAddr T (.tmp t3) idx, y6, q6, e6, none⟩, ⟨none, .store ty (.tmp t4) (.tmp t2), y7, q7, e7, none⟩] false)) := by
 simp only [Bool.and_eq_true] at hF
 obtain ⟨f2, f3⟩ := hF
 obtain ⟨hm0, hw0, hr0, hnd0⟩ := zaR hsl0
 simp only [qne, List.nodup_cons, not_or, List.nodup_nil, and_true, not_false_eq_true] at hw0 hnd0 hr0
 obtain ⟨hm, hw, hr, hnd⟩ := zaR hsl
 simp only [qne, List.nodup_cons, not_or, List.nodup_nil, and_true, not_false_eq_true, List.all_cons, List.all_nil, Bool.and_true, Bool.and_eq_true, decide_eq_true_eq] at hw hnd hr hx
 intro a w O R B p st s hB hP _
 have hNa := hB.ok.1
 refine qsr fun K hK => ?_
 refine wl_rd (fun args w => Tryz.call94 args w) Uuid_c (by simp only [List.map_toArray, List.map_cons, List.map_nil, zae, hB.rd]) hB.rs (fun h => h hB.oR) hB.new ?_
 intro v w0 hq0
 obtain ⟨l, ⟨rfl, hl16⟩, k2⟩ := hq0.val
 refine za9 (z := zaV (List.replicate 16 (.int .u8 0))) (fun w => Tryz.zeroValue106 w) fun w1a hc1a hb1a hs1a => ?_
 have h5x : t5 ≠ x := of_decide_eq_true hux
 refine za7 (b := w0.heap.size) (n := 16) (l' := l.map zaw) (by kernel_rfl) (by simp only [zae, zad, zag, hNa, hw0]) (by
  simp only [zae, zaf (Ne.symm h5x), zad, zag, hNa, hw0]; rfl) hb1a (by simpa using hl16) (by intro u hu; obtain ⟨z, _, rfl⟩ := List.mem_map.1 hu; rfl) (by simp [zaV, Value.cells]) fun w1 hbx hc1b => ?_
 refine zaa (hK _ _ ?_)
 clear hK K
 have hck : Chg (fun _ => False) w0 w1 := hc1a.trans hc1b fun n hn e => by omega
 have hR0 := hq0.rd.lt
 have hqchg : Chg (fun k => k = R) w w1 := hq0.chg.trans hck fun _ _ h => h.elim
 have hqrd := hq0.rd.stay (zbk.of hck fun _ _ _ h => h) (hck.block R hR0 (fun h => h))
 have q1 : zan (RS m) a ((a.put (some t5) (.agg (l.map zaw).toArray)).put (some x) (.pointer (some ⟨w0.heap.size, 0, none⟩))) := ((zan.refl _ _).put hw0.1.1 _).put hw0.2.1 _
 have q5 : get ((a.put (some t5) (.agg (l.map zaw).toArray)).put (some x) (.pointer (some ⟨w0.heap.size, 0, none⟩))) x = .pointer (some ⟨w0.heap.size, 0, none⟩) := zad (by rw [zag, hNa]; exact hw0.2.2.1)
 change Code.wp _ _ _ ((a.put (some t5) (.agg (l.map zaw).toArray)).put (some x) (.pointer (some ⟨w0.heap.size, 0, none⟩))) w1
 generalize ((a.put (some t5) (.agg (l.map zaw).toArray)).put (some x) (.pointer (some ⟨w0.heap.size, 0, none⟩))) = ac at q1 q5 ⊢
 have hN : ac.tmps.size = E.N := q1.size.trans hNa
 have hs : get ac sS = .pointer (some ⟨B, p, none⟩) := (q1.slot _ hr.1).trans hP.pt
 obtain ⟨cs, Tb, c1, c2⟩ := hP.at_
 have hfs : fsz E.fl (.mk .uuid a1 a2 a3 a4 a5 of sub) = 16 := rfl
 have hfo : foff E.fl fs i + 16 ≤ lsz E.fl fs := by
  obtain ⟨_, v1, v2, g3, g4, g5⟩ := c2
  obtain ⟨_, _, _, h6⟩ := g4.get hf
  have := g4.len.1
  omega
 have hsz : lsz E.fl fs ≤ ssz E.fl fs := by unfold ssz; omega
 have hb1 : Blk w1 B cs Tb := c1.chg hqchg (fun e => hP.ne e.symm)
 have e : (decF E.flex E.ver (.mk .uuid a1 a2 a3 a4 a5 of sub)) = fun bs => (take? 16 bs).map fun y => (.uuid y.1, y.2) := by
  funext bs; unfold decF; rfl
 rw [e]
 have hl : ∀ st : Option Bs, st.bind (fun bs => (take? 16 bs).map fun y => (D.uuid y.1, y.2)) = (st.bind (take? 16)).map fun y => (D.uuid y.1, y.2) := fun st => by cases st <;> rfl
 have he : (st.bind (fun bs => (take? 16 bs).map fun y => (D.uuid y.1, y.2))).map (·.2) = (st.bind (take? 16)).map (·.2) := by rw [hl, Option.map_map]; rfl
 have hvc : (Value.agg (l.map zaw).toArray).cells.toList = l.map zaw := by simp [Value.cells]
 refine zay ?_
 refine zam ?_
 rw [zae, hs]
 refine zaT (b := w0.heap.size) (o := 0) (n := 16) (by kernel_rfl) (by kernel_rfl) (by rw [zae, zaf hx.1, q5]) hbx (by simp [hl16]) ?_
 have e16 : ((l.map zaw).drop 0).take 16 = l.map zaw := by rw [List.drop_zero]; exact List.take_of_length_le (by simp [hl16])
 rw [e16]
 refine zaI (p := ⟨B, p, none⟩) (by simp only [zae, zad, zaf, zak, ne_eq, zag, hN, hnd, hw, not_false_eq_true]) ?_
 refine zaC (b := B) (o := p) f2 (by simp only [zae, zad, zaf, zak, ne_eq, zag, hN, hnd, hw, not_false_eq_true]) ?_
 refine zaY (b := B) (o := p + (k0 + foff E.fl fs i)) (n := 16) (v := .agg (l.map zaw).toArray) f3 (by simp only [zae, zad, zaf, zak, ne_eq, zag, hN, hnd, hw, not_false_eq_true]) (by simp only [zae, zad, zaf, zak, ne_eq, zag, hN, hnd, hw, not_false_eq_true]) hb1 (by simp [Value.cells, hl16])
  (by intro u hu; rw [hvc] at hu; obtain ⟨z, _, rfl⟩ := List.mem_map.1 hu; rfl) (by have := c1.lt; omega) fun w2 hb2 hc2 => ?_
 rw [hvc] at hb2
 refine zaa ?_
 rw [show p + (k0 + foff E.fl fs i) = p + k0 + foff E.fl fs i by omega] at hb2
 exact set_field hP hB hf ((((q1.put hw.1.1 _).put hw.2.1.1 _).put hw.2.2.1.1 _).put hw.2.2.2.1 _) hqchg (by rw [he]; exact hqrd) (by rw [he]; exact (less_take 16).st st) (d := .uuid l) (vs := l.map zaw) (by unfold RepF; exact ⟨hl16, rfl⟩) (by rw [hfs]; simpa using hl16) (fun z hz => by
  rw [hl] at hz
  cases hb : st.bind (take? 16) with
  | none => rw [hb] at hz; cases hz
  | some u =>
   rw [hb] at hz
   simp only [Option.map_some, Option.some.injEq] at hz
   rw [← hz, k2 u hb]) c1 hb2 hc2
end
section
variable {r0 r1 r2 r3 r4 r5 : Nat}
variable {r6 r7 r8 r9 r10 r11 r12 r13 r14 : Nat}
variable {y40 y41 y42 y43 y44 y45 y46 y47 y48 y49 y50 y51 y52 y53 y54 : TypeId} {q40 q41 q42 q43 q44 q45 q46 q47 q48 q49 q50 q51 q52 q53 q54 : String} {e40 e41 e42 e43 e44 e45 e46 e47 e48 e49 e50 e51 e52 e53 e54 : Array Edge}
variable {E : REnv} {m mB sS k0 i I x y ys aS iS lS vS t1 t2 t3 t4 t5 t6 t7 t8 t9 t10 t11 t12 w1' w2' w3' w4' w5' u1 u2 u3 u4 u5 v1 v2 v3 v4 b1 b2 ug uo uc ui n1 n2 n3 n4 n5 n6 n7 un1 un2 : Nat} {fs sub : List Fld} {pre : S → Prop} {c body cl : Code} {us us2 us3 : Array TypeId} {fn : FuncId} {T ty ti idx ua : Nat} {a1 a2 a3 a4 a5 : Int} {of : K} {z : Value}
variable {z4 z5 : TypeId} {p4 p5 : String} {j4 j5 : Array Edge}
end
set_option maxHeartbeats 2000000
def DefI (fl : Bool) (fn : FuncId) (sub : List Fld) : Prop := ∀ (w : World) (G : Nat → Prop) (b off : Nat) (cs : List Value) (T : TypeId), Blk w b cs T → ¬ G b → off + ssz fl sub ≤ cs.length → RepS w G fl sub ⟨dfltL sub, []⟩ ((cs.drop off).take (ssz fl sub)) →
 zaE Tryz.prog fn #[.pointer (some ⟨b, off, none⟩)] w fun _ w' => Chg (fun k => k = b) w w' ∧ ∃ cs', Blk w' b cs' T ∧ cs'.length = cs.length ∧ (∀ j, (j < off ∨ off + ssz fl sub ≤ j) → cs'[j]? = cs[j]?) ∧ RepS w' G fl sub ⟨dfltL sub, []⟩ ((cs'.drop off).take (ssz fl sub))
theorem defI_of {fl : Bool} {fn : FuncId} {sub : List Fld} (h : ∀ zc, DefC fn zc zc) : DefI fl fn sub := by
 intro w G b off cs T hb hG hl hr
 have hz : ((cs.drop off).take (ssz fl sub)).length = ssz fl sub := by rw [List.length_take, List.length_drop]; omega
 refine zaE.mono (h _ w b off cs T hb (by rw [hz]; exact hl) (by rw [hz])) ?_
 rintro _ w' ⟨h1, h2⟩
 have e : zaB cs off ((cs.drop off).take (ssz fl sub)) = cs := splice_same (by rw [hz]) (by rw [hz]; exact hl)
 rw [e] at h1
 exact ⟨h2, cs, h1, rfl, fun _ _ => rfl, hr.stay (zbk.of h2 fun k hk _ e => hG (e ▸ hk))⟩
theorem splice_of {cs cs' : List Value} {off n : Nat} (hl : cs'.length = cs.length) (hn : off + n ≤ cs.length) (h : ∀ j, (j < off ∨ off + n ≤ j) → cs'[j]? = cs[j]?) : cs' = zaB cs off ((cs'.drop off).take n) := by
 have hz : ((cs'.drop off).take n).length = n := by rw [List.length_take, List.length_drop]; omega
 apply List.ext_getElem?
 intro j
 by_cases h1 : j < off
 ·rw [zbi (by rw [hz]; exact hn) h1, h j (.inl h1)]
 by_cases h2 : off + n ≤ j
 ·rw [zbh (by rw [hz]; exact hn) (by rw [hz]; exact h2), h j (.inr h2)]
 obtain ⟨m, rfl⟩ : ∃ m, j = off + m := ⟨j - off, by omega⟩
 rw [splc_mid (by rw [hz]; exact hn) (by rw [hz]; omega), List.getElem?_take_of_lt (by omega), List.getElem?_drop]
section
variable {y0 y1 y2 y3 y4 y5 y6 y7 : TypeId} {q0 q1 q2 q3 q4 q5 q6 q7 : String} {e0 e1 e2 e3 e4 e5 e6 e7 : Array Edge} {r0 r1 r2 r3 r4 r5 : Nat}
variable {r6 r7 r8 r9 r10 r11 r12 : Nat}
variable {E : REnv} {m mB sS k0 i I x y ys t1 t2 t3 t4 t5 t6 : Nat} {fs sub : List Fld} {c : Code} {us : Array TypeId} {fn : FuncId} {T idx : Nat} {a1 a2 a3 a4 a5 : Int} {of : K}
theorem rf_innerG (hf : fs[i]? = some (.mk .struct a1 a2 a3 a4 a5 of sub)) (hF : (decide (a3 < 0) && zbc Tryz.prog T idx (k0 + foff E.fl fs i) (ssz E.fl sub)) = true) (hen : zaZ Tryz.prog fn) (hdef : DefI E.fl fn sub)
  (h : RdC ⟨E.N, E.ver, E.flex, E.fl, E.rr, none⟩ mB ys 0 sub I (Fresh sub 0) (semL ⟨E.N, E.ver, E.flex, E.fl, E.rr, none⟩ sub 0 (tlP ⟨E.N, E.ver, E.flex, E.fl, E.rr, none⟩ sub)) c) (s1 : rsl E m [t1, t2, t3, y, t4, t5, t6, ys] [sS, E.rr] = true) (s2 : decide (m ≤ mB) = true) (s3 : rsl E mB [] [ys] = true) :
  RdC E m sS k0 fs (i + 1) (Fresh fs i) (zbm i (decF E.flex E.ver (.mk .struct a1 a2 a3 a4 a5 of sub)))
   (.seq (.region r0 #[⟨some t1, .move (.tmp sS), y0, q0, e0, none⟩, ⟨some t2, .nilCheck (.tmp t1), y1, q1, e1, none⟩, ⟨some t3, .fieldAddr T (.tmp t2) idx, y2, q2, e2, none⟩, ⟨some y, .assign (.tmp t3), y3, q3, e3, none⟩] false)
    (.seq (.region r1 #[⟨some t4, .move (.tmp y), y4, q4, e4, none⟩, ⟨some t5, .call { callee := .value (.func fn), args := #[.tmp t4], argTypes := us }, y5, q5, e5, none⟩] false)
     (.seq (.region r2 #[⟨some t6, .move (.tmp y), y6, q6, e6, none⟩, ⟨some ys, .assign (.tmp t6), y7, q7, e7, none⟩] false) c))) := by
 simp only [Bool.and_eq_true, decide_eq_true_eq] at hF s2
 obtain ⟨f1, f2⟩ := hF
 obtain ⟨hm, hw, hr, hnd⟩ := zaR s1
 have hnr := nodup_rev hnd
 simp only [List.reverse_cons, List.reverse_nil, List.nil_append, List.cons_append, List.mem_cons, List.not_mem_nil, or_false, List.nodup_cons, not_or, List.nodup_nil, and_true, not_false_eq_true] at hnr
 simp only [qne, List.nodup_cons, not_or, List.nodup_nil, and_true, not_false_eq_true] at hw hnd hr
 intro a w O R B p st s hB hP hpre
 have hN := hB.ok.1
 have ev : ∀ {d t : Nat} {a : Act} {v : Value}, d < a.tmps.size → get (a.put (some d) v) t = if d = t then v else get a t := fun h => get_put h
 have hfs : fsz E.fl (.mk .struct a1 a2 a3 a4 a5 of sub) = ssz E.fl sub := by unfold fsz; dsimp only; rw [if_pos f1]; rfl
 obtain ⟨d, cs, Tb, k1, k2, k3, k4⟩ := hP.at_.field hf
 have hd : d = .struct (dfltL sub) [] := by
  have := hpre i _ (Nat.le_refl _) hf
  rw [k1] at this
  simp only [Option.some.injEq] at this
  rw [this]
  unfold dfltF
  dsimp only
  rw [if_pos f1]
 rw [hfs] at k3 k4
 have k5 : RepS w (fun g => ¬ O g) E.fl sub ⟨dfltL sub, []⟩ ((cs.drop (p + k0 + foff E.fl fs i)).take (ssz E.fl sub)) := by
  unfold RepF at k4
  dsimp only at k4
  rw [if_pos f1, hd] at k4
  obtain ⟨⟨ds0, tg0⟩, g1, v1, v2, g2, g3, g4⟩ := k4
  simp only [S.d, D.struct.injEq] at g1
  obtain ⟨rfl, rfl⟩ := g1
  exact ⟨v1, v2, g2, g3, g4⟩
 obtain ⟨q, hq⟩ : ∃ q, q = p + (k0 + foff E.fl fs i) := ⟨_, rfl⟩
 have hq' : p + k0 + foff E.fl fs i = q := by omega
 rw [hq'] at k3 k5
 refine qsr fun K hK => ?_
 refine zam ?_
 rw [zae, hP.pt]
 refine zaI (p := ⟨B, p, none⟩) (by simp only [zae, ev, zag, hN, hw, hnd, hnr, if_true, if_false]) ?_
 refine zaC (b := B) (o := p) f2 (by simp only [zae, ev, zag, hN, hw, hnd, hnr, if_true, if_false]) ?_
 rw [← hq]
 refine zah ?_
 simp only [zae, ev, zag, hN, hw, if_true]
 refine zaa (hK _ _ ?_)
 clear hK K
 refine qsr fun K hK => ?_
 refine zam ?_
 simp only [zae, ev, zag, hN, hw, if_true]
 refine zaz hen (by simp only [List.map_toArray, List.map_cons, List.map_nil, zae, ev, zag, hN, hw, if_true]; exact hdef w (fun g => ¬ O g) B q cs Tb k2 (fun h => h hP.oB) k3 k5) ?_
 rintro vd w1 ⟨hc1, cs1, hb1, hl1, ho1, hr1⟩
 refine zaa (hK _ _ ?_)
 clear hK K
 refine qsr fun K hK => ?_
 refine zam ?_
 simp only [zae, ev, zag, hN, hw, hnd, hnr, if_true, if_false]
 refine zah ?_
 simp only [zae, ev, zag, hN, hw, hnd, hnr, if_true, if_false]
 refine zaa (hK _ _ ?_)
 clear hK K
 have hXb : ∀ k, ¬ O k → k < w.heap.size → ¬ k = B := fun k hk _ e => hk (e ▸ hP.oB)
 have hrs1 : RdS w1 (fun g => ¬ O g) R st := hB.rs.stay (zbk.of hc1 hXb) (hc1.block R hB.rs.lt hP.ne)
 obtain ⟨a8, ha8⟩ : ∃ a8, a8 = (((((((a.put (some t1) (.pointer (some ⟨B, p, none⟩))).put (some t2) (.pointer (some ⟨B, p, none⟩))).put (some t3) (.pointer (some ⟨B, q, none⟩))).put (some y) (.pointer (some ⟨B, q, none⟩))).put (some t4) (.pointer (some ⟨B, q, none⟩))).put (some t5) vd).put (some t6) (.pointer (some ⟨B, q, none⟩))).put (some ys) (.pointer (some ⟨B, q, none⟩)) := ⟨_, rfl⟩
 rw [← ha8]
 have hk8 : zan (RS m) a a8 := by
  rw [ha8]
  exact ((((((((zan.refl _ _).put hw.1.1 _).put hw.2.1.1 _).put hw.2.2.1.1 _).put hw.2.2.2.1.1 _).put hw.2.2.2.2.1.1 _).put hw.2.2.2.2.2.1.1 _).put hw.2.2.2.2.2.2.1.1 _).put hw.2.2.2.2.2.2.2.1 _
 have g8 : get a8 ys = .pointer (some ⟨B, q, none⟩) := by rw [ha8, zad (by simp only [zag, hN]; exact hw.2.2.2.2.2.2.2.2.1)]
 clear ha8
 have hB8 : RB E a8 w1 O R st := hB.next hm hk8 hc1 (fun k h => by rw [h]; exact hP.oB) hrs1 (Nat.le_refl _)
 have hP8 : RP ⟨E.N, E.ver, E.flex, E.fl, E.rr, none⟩ ys 0 sub a8 w1 O R B q ⟨dfltL sub, []⟩ := ⟨g8, AtE.of ⟨_, _, hb1, by rw [hl1]; omega, hr1⟩ rfl, hP.oB, hP.ne⟩
 refine wp_mono (h a8 w1 O R B q st ⟨dfltL sub, []⟩ (hB8.st none) hP8 (fresh0 sub)) ?_
 intro e a9 w9 hq9
 have hsz : foff E.fl fs i + ssz E.fl sub ≤ lsz E.fl fs := by
  obtain ⟨cs0, T0, g1, g2, v1, v2, g3, g4, g5⟩ := hP.at_
  obtain ⟨_, _, _, h6⟩ := g4.get hf
  have := g4.len.1
  rw [hfs] at h6
  omega
 have hsz2 : lsz E.fl fs ≤ ssz E.fl fs := by unfold ssz; omega
 have esem : ∀ bs, (decF E.flex E.ver (.mk .struct a1 a2 a3 a4 a5 of sub)) bs = (zbt E.flex E.ver sub bs).map fun x => (x.1.d, x.2) := by
  intro bs
  unfold decF
  dsimp only
  rw [if_pos f1]; rfl
 have ebind : st.bind (decF E.flex E.ver (.mk .struct a1 a2 a3 a4 a5 of sub)) = st.bind fun b => (zbt E.flex E.ver sub b).map fun x => (x.1.d, x.2) := by
  cases st with
  | none => rfl
  | some bs => rw [Option.bind_some, Option.bind_some, esem]
 cases e <;> try exact hq9.elim
 ·obtain ⟨hk, hc, hrest, st1, s1', hs1, ha1, hstp, hl, _⟩ := hq9
  obtain ⟨e1, e2⟩ := hstp.part
  obtain ⟨cs9, h91, h92, h93⟩ := hrest _ _ hb1
  have h94 : ∀ j, (j < q ∨ q + ssz E.fl sub ≤ j) → cs9[j]? = cs[j]? := fun j hj => (h93 j (by omega)).trans (ho1 j hj)
  have hall : Chg (fun k => k = R ∨ k = B) w w9 := (hc1.mono fun _ _ h => Or.inr h).trans hc fun _ _ h => h
  have hsp := splice_of (h92.trans hl1) k3 h94
  obtain ⟨cs0, T0, q1, q2, q3⟩ := ha1
  obtain ⟨rfl, _⟩ := q1.inj h91
  rw [Nat.add_zero] at q3
  refine ⟨hk8.trans (hk.mono fun t ht => ⟨by have := ht.1; omega, ht.2⟩), hall, ?_, st1, _, hs1, at_set hP.at_ hf (d := s1'.d) (vs := (cs0.drop q).take (ssz E.fl sub)) ?_ ?_ k2 ?_ hall (fun k hk _ e => hk (by rcases e with rfl | rfl; exact hB.oR; exact hP.oB)), ?_, hl, fun j hj => ?_⟩
  ·intro cs' T' hb'
   obtain ⟨rfl, rfl⟩ := hb'.inj k2
   exact ⟨cs0, h91, h92.trans hl1, fun j hj => h94 j (by omega)⟩
  ·unfold RepF
   dsimp only
   rw [if_pos f1]
   exact ⟨s1', rfl, q3⟩
  ·rw [hfs, List.length_take, List.length_drop, h92, hl1]; omega
  ·rw [hq', ← hsp]; exact h91
  ·rw [e1, ← ebind]
   exact stp_set fun y hy => e2 y (by rw [← ebind]; exact hy)
  ·show (s.ds.set i _)[j]? = _
   rw [List.getElem?_set_ne (by omega)]
 ·obtain ⟨f1', f2', f3, f4⟩ := hq9
  refine ⟨f1', f2', ?_, (hc1.mono fun k _ h => by rw [h]; exact hP.oB : Chg O w w1).trans f4 fun _ _ h => h⟩
  cases st with
  | none => rfl
  | some bs =>
   rw [Option.bind_some] at f3 ⊢
   unfold zbm
   rw [esem, part_sem]
   have f3' : semL E sub 0 (tlP E sub) ⟨dfltL sub, []⟩ bs = none := f3
   rw [f3']; rfl
theorem rf_inner (hf : fs[i]? = some (.mk .struct a1 a2 a3 a4 a5 of sub)) (hF : (decide (a3 < 0) && zbc Tryz.prog T idx (k0 + foff E.fl fs i) (ssz E.fl sub)) = true) (hen : zaZ Tryz.prog fn) (hdef : DefI E.fl fn sub)
  (h : RdC ⟨E.N, E.ver, E.flex, E.fl, E.rr, none⟩ (ys + 1) ys 0 sub sub.length (Fresh sub 0) (semL ⟨E.N, E.ver, E.flex, E.fl, E.rr, none⟩ sub 0 (tlP ⟨E.N, E.ver, E.flex, E.fl, E.rr, none⟩ sub)) c) (s1 : rsl E m [t1, t2, t3, y, t4, t5, t6, ys] [sS, E.rr] = true) (s2 : decide (m ≤ (ys + 1)) = true) (s3 : rsl E (ys + 1) [] [ys] = true) :
  RdC E m sS k0 fs (i + 1) (Fresh fs i) (zbm i (decF E.flex E.ver (.mk .struct a1 a2 a3 a4 a5 of sub)))
   (.seq (.region r0 #[⟨some t1, .move (.tmp sS), y0, q0, e0, none⟩, ⟨some t2, .nilCheck (.tmp t1), y1, q1, e1, none⟩, ⟨some t3, .fieldAddr T (.tmp t2) idx, y2, q2, e2, none⟩, ⟨some y, .assign (.tmp t3), y3, q3, e3, none⟩] false)
    (.seq (.region r1 #[⟨some t4, .move (.tmp y), y4, q4, e4, none⟩, ⟨some t5, .call { callee := .value (.func fn), args := #[.tmp t4], argTypes := us }, y5, q5, e5, none⟩] false)
     (.seq (.region r2 #[⟨some t6, .move (.tmp y), y6, q6, e6, none⟩, ⟨some ys, .assign (.tmp t6), y7, q7, e7, none⟩] false) c))) := by
 exact rf_innerG hf hF hen hdef h s1 s2 s3
theorem wp_defv {a : Act} {w : World} {b off N : Nat} {t1 t2 t3 t6 x T idx k n : Nat} {Q : Exit → Act → World → Prop} (hN : a.tmps.size = N) (hD : a.defers = []) (h0 : get a 0 = .pointer (some ⟨b, off, none⟩))
  (hF : (zbc Tryz.prog T idx k n && decide ((0 :: [t1, t2, t3, x, t6]).Nodup) && [0, t1, t2, t3, x, t6].all (fun t => decide (t < N))) = true)
  (h : ∀ a', a'.tmps.size = N → a'.defers = [] → get a' 0 = .pointer (some ⟨b, off, none⟩) → Q .normal a' w) :
  (Code.seq (.region r0 #[⟨some t1, .move (.tmp 0), y0, q0, e0, none⟩, ⟨some t2, .nilCheck (.tmp t1), y1, q1, e1, none⟩, ⟨some t3, .fieldAddr T (.tmp t2) idx, y2, q2, e2, none⟩, ⟨some x, .assign (.tmp t3), y3, q3, e3, none⟩] false) (.region r1 #[⟨some t6, .move (.tmp x), y4, q4, e4, none⟩] false)).wp Tryz.prog Q a w := by
 simp only [Bool.and_eq_true, decide_eq_true_eq, List.all_eq_true] at hF
 obtain ⟨⟨f1, hnd⟩, hlt⟩ := hF
 simp only [qne, List.nodup_cons, not_or, List.nodup_nil, and_true, not_false_eq_true] at hnd hlt
 refine qsr fun K hK => ?_
 refine zam ?_
 refine zaI (p := ⟨b, off, none⟩) (by simp only [zae, zad, zaf, zak, ne_eq, zag, hN, hnd, hlt, not_false_eq_true, h0]) ?_
 refine zaC (b := b) (o := off) f1 (by simp only [zae, zad, zaf, zak, ne_eq, zag, hN, hnd, hlt, not_false_eq_true, h0]) ?_
 refine zah ?_
 refine zaa (hK _ _ ?_)
 clear hK K
 refine zay ?_
 refine zam ?_
 refine zaa (h _ (by simp only [zag, hN]) (by simp only [zab, hD]) ?_)
 simp only [zaf, zak, ne_eq, hnd, not_false_eq_true, h0]
end
section
variable {r0 r1 r2 r3 r4 r5 : Nat}
variable {E : REnv} {m x t1 : Nat} {us : Array TypeId} {a1 a2 a3 a4 a5 : Int} {of : K} {sub : List Fld}
end
section
variable {r0 r1 r2 r3 r4 r5 : Nat}
variable {E : REnv} {m x y t t1 t2 : Nat} {us : Array TypeId} {fn : FuncId} {sem : Bs → Option (Bs × Bs)} {c ca cb cu : Code} {a1 a2 a3 a4 a5 : Int} {of : K} {sub : List Fld}
end
section
variable {r0 r1 r2 r3 r4 r5 : Nat}
variable {r6 r7 r8 r9 r10 r11 r12 : Nat} {z5 : TypeId} {p5 : String} {j5 : Array Edge}
variable {E : REnv} {m sS k0 i x y ys t1 t2 t3 t4 t5 t6 u u1 u2 u3 u4 v1 v2 v3 v4 v5 v6 v7 : Nat} {fs sub : List Fld} {c : Code} {us us2 us3 : Array TypeId} {fn : FuncId} {T T2 idx tp : Nat} {a1 a2 a3 a4 a5 : Int} {of : K}
end
abbrev knE (E : REnv) : REnv := ⟨E.N, E.ver, E.flex, E.fl, E.rr, some (.map none)⟩
def tlK (E : REnv) (fs : List Fld) : Sem := fun s bs => tlP E fs ⟨s.ds, []⟩ bs
def RkC (E : REnv) (m sS k0 : Nat) (fs : List Fld) (I : Nat) (pre : S → Prop) (sem : Sem) (c : Code) : Prop :=
 ∀ (a : Act) (w : World) (O : Nat → Prop) (R B p : Nat) (st : Option Bs) (s : S), RB E a w O R st → RP (knE E) sS k0 fs a w O R B p s → pre s → c.wp Tryz.prog (RdQ E m k0 fs I sem a w O R B p st s) a w
def RkT (E : REnv) (m sS k0 : Nat) (fs : List Fld) (pre : S → Prop) (sem : Sem) (c : Code) : Prop :=
 ∀ (a : Act) (w : World) (O : Nat → Prop) (R B p : Nat) (st : Option Bs) (s : S), RB E a w O R st → RP (knE E) sS k0 fs a w O R B p s → pre s → c.wp Tryz.prog (RtQ E m k0 fs sem w O R B p st s) a w
theorem AtE.ofK {E : REnv} {w : World} {O : Nat → Prop} {fs : List Fld} {ds : List D} {vs : List Value} (hfl : E.fl = true) (h : repSB E.fl fs ds vs = true) :
  ∃ v1 v2, vs = v1 ++ v2 ∧ RepL w (fun g => ¬ O g) E.fl fs ds v1 ∧ TgX (knE E) w O [] v2 := by
 unfold repSB at h
 simp only [Bool.and_eq_true] at h
 obtain ⟨h1, h2⟩ := h
 refine ⟨_, _, (List.take_append_drop (lsz E.fl fs) vs).symm, repLB_out h1, ?_⟩
 rw [if_pos hfl] at h2
 split at h2
 ·rename_i hd; rw [hd]; exact ⟨rfl, hfl⟩
 ·cases h2
section
variable {E : REnv} {m sS k0 I i : Nat} {fs : List Fld} {pre : S → Prop} {sem tl : Sem} {c c1 c2 : Code} {f : Fld}
theorem rdx_mono {pre' : S → Prop} {sem' : Sem} (h : RkC E m sS k0 fs I pre' sem' c) (hp : ∀ s, pre s → pre' s) (he : ∀ s bs, pre s → s.ds.length = fs.length → sem s bs = sem' s bs) : RkC E m sS k0 fs I pre sem c := by
 intro a w O R B p st s hB hP hpre
 have hlen := hP.at_.len
 refine wp_mono (h a w O R B p st s hB hP (hp s hpre)) ?_
 intro e a1 w1 hq
 have hsem : st.bind (sem s) = st.bind (sem' s) := by
  cases st with
  | none => rfl
  | some bs => exact he s bs hpre hlen
 cases e <;> try exact hq.elim
 ·obtain ⟨hk, hc, hr, st1, s1, hs1, ha1, hstp, hl, hI'⟩ := hq
  exact ⟨hk, hc, hr, st1, s1, hs1, ha1, by unfold Stp at hstp ⊢; rw [hsem]; exact hstp, hl, hI'⟩
 ·obtain ⟨q1, q2, q3, q4⟩ := hq
  exact ⟨q1, q2, by rw [hsem]; exact q3, q4⟩
theorem rtx_mono {pre' : S → Prop} {sem' : Sem} (h : RkT E m sS k0 fs pre' sem' c) (hp : ∀ s, pre s → pre' s) (he : ∀ s bs, pre s → s.ds.length = fs.length → sem s bs = sem' s bs) : RkT E m sS k0 fs pre sem c := by
 intro a w O R B p st s hB hP hpre
 have hlen := hP.at_.len
 refine wp_mono (h a w O R B p st s hB hP (hp s hpre)) ?_
 intro e a1 w1 hq
 have hsem : st.bind (sem s) = st.bind (sem' s) := by
  cases st with
  | none => rfl
  | some bs => exact he s bs hpre hlen
 cases e <;> try exact hq.elim
 unfold RtQ at hq ⊢
 rw [hsem]; exact hq
theorem rdx_next (hf : fs[i]? = some f) (hsl : rsl E m [] [sS] = true) (hI : decide (i + 1 ≤ I) = true) (h1 : RdC ⟨E.N, E.ver, E.flex, E.fl, E.rr, some (.map none)⟩ m sS k0 fs (i + 1) (Fresh fs i) (semFld ⟨E.N, E.ver, E.flex, E.fl, E.rr, some (.map none)⟩ f i) c1) (h2 : RkC E m sS k0 fs I (Fresh fs (i + 1)) (semL E fs (i + 1) tl) c2) :
  RkC E m sS k0 fs I (Fresh fs i) (semL E fs i tl) (.seq c1 c2) := by
 replace h1 : RdC (knE E) m sS k0 fs (i + 1) (Fresh fs i) (semFld E f i) c1 := h1
 obtain ⟨hm, hw, hr, hnd⟩ := zaR hsl
 simp only [List.mem_cons, List.not_mem_nil, or_false, forall_eq] at hr
 have hI := of_decide_eq_true hI
 intro a w O R B p st s hB hP hpre
 have hlen := hP.at_.len
 have hsem : st.bind (semL E fs i tl s) = (st.bind (semFld E f i s)).bind fun x => semL E fs (i + 1) tl x.1 x.2 := by
  cases st with
  | none => rfl
  | some bs => exact semL_step hf hpre hlen
 refine wp_seq (wp_mono (h1 a w O R B p st s (hB.st _) hP hpre) ?_)
 intro e a1 w1 hq
 cases e <;> try exact hq.elim
 ·obtain ⟨hk, hc, hrs, st1, s1, hs1, ha1, hstp, hl, hI1⟩ := hq
  have hB1 := hB.next hm hk hc (fun k hk => by rcases hk with rfl | rfl; exact hB.oR; exact hP.oB) hs1 hl
  have hP1 : RP (knE E) sS k0 fs a1 w1 O R B p s1 := ⟨(hk.slot _ hr).trans hP.pt, ha1, hP.oB, hP.ne⟩
  refine wp_mono (h2 a1 w1 O R B p st1 s1 hB1 hP1 (hpre.on (by omega) hI1)) ?_
  intro e a2 w2 hq
  cases e <;> try exact hq.elim
  ·obtain ⟨hk2, hc2, hr2, st2, s2, hs2, ha2, hstp2, hl2, hI2'⟩ := hq
   refine ⟨hk.trans hk2, hc.trans hc2 fun _ _ h => h, hrs.trans hr2, st2, s2, hs2, ha2, ?_, Nat.le_trans hl2 hl, fun j hj => (hI2' j (by omega)).trans (hI1 j (by omega))⟩
   unfold Stp at hstp hstp2 ⊢
   rw [hsem]
   cases h : st.bind (semFld E f i s) with
   | none =>
    rw [h] at hstp
    subst hstp
    exact hstp2
   | some y =>
    rw [h] at hstp
    obtain ⟨rfl, rfl⟩ := hstp
    exact hstp2
  ·obtain ⟨q1, q2, q3, q4⟩ := hq
   refine ⟨q1, q2, ?_, (hc.mono fun k _ hk => by rcases hk with rfl | rfl; exact hB.oR; exact hP.oB : Chg O w w1).trans q4 fun _ _ h => h⟩
   rw [hsem]
   unfold Stp at hstp
   cases h : st.bind (semFld E f i s) with
   | none => rfl
   | some y =>
    rw [h] at hstp
    obtain ⟨rfl, rfl⟩ := hstp
    exact q3
 ·obtain ⟨q1, q2, q3, q4⟩ := hq
  refine ⟨q1, q2, ?_, q4⟩
  rw [hsem, q3]; rfl
theorem rdx_tagged (hf : fs[i]? = some f) (ht : decide (0 ≤ f.tag) = true) (h : RkC E m sS k0 fs I (Fresh fs (i + 1)) (semL E fs (i + 1) tl) c) : RkC E m sS k0 fs I (Fresh fs i) (semL E fs i tl) c := by
 refine rdx_mono h (fun _ h => h.up (by omega)) fun s bs hfr hlen => ?_
 rw [semL_step hf hfr hlen]
 unfold semFld
 have := of_decide_eq_true ht
 rw [if_neg (by simp; omega)]
 rfl
theorem rdx_end (hl : decide (fs.length ≤ i) = true) (h : RkC E m sS k0 fs I (fun _ => True) tl c) : RkC E m sS k0 fs I (Fresh fs i) (semL E fs i tl) c :=
 rdx_mono h (fun _ _ => trivial) fun s bs _ hlen => semL_end (of_decide_eq_true hl) hlen
theorem rtx_next (hf : fs[i]? = some f) (hsl : rsl E m [] [sS] = true) (h1 : RdC ⟨E.N, E.ver, E.flex, E.fl, E.rr, some (.map none)⟩ m sS k0 fs (i + 1) (Fresh fs i) (semFld ⟨E.N, E.ver, E.flex, E.fl, E.rr, some (.map none)⟩ f i) c1) (h2 : RkT E m sS k0 fs (Fresh fs (i + 1)) (semL E fs (i + 1) tl) c2) :
  RkT E m sS k0 fs (Fresh fs i) (semL E fs i tl) (.seq c1 c2) := by
 replace h1 : RdC (knE E) m sS k0 fs (i + 1) (Fresh fs i) (semFld E f i) c1 := h1
 obtain ⟨hm, hw, hr, hnd⟩ := zaR hsl
 simp only [List.mem_cons, List.not_mem_nil, or_false, forall_eq] at hr
 intro a w O R B p st s hB hP hpre
 have hlen := hP.at_.len
 have hsem : st.bind (semL E fs i tl s) = (st.bind (semFld E f i s)).bind fun x => semL E fs (i + 1) tl x.1 x.2 := by
  cases st with
  | none => rfl
  | some bs => exact semL_step hf hpre hlen
 refine wp_seq (wp_mono (h1 a w O R B p st s (hB.st _) hP hpre) ?_)
 intro e a1 w1 hq
 cases e <;> try exact hq.elim
 ·obtain ⟨hk, hc, hrs, st1, s1, hs1, ha1, hstp, hl, hI1⟩ := hq
  have hcO : Chg O w w1 := hc.mono fun k _ hk => by rcases hk with rfl | rfl; exact hB.oR; exact hP.oB
  have hB1 := hB.next hm hk hc (fun k hk => by rcases hk with rfl | rfl; exact hB.oR; exact hP.oB) hs1 hl
  have hP1 : RP (knE E) sS k0 fs a1 w1 O R B p s1 := ⟨(hk.slot _ hr).trans hP.pt, ha1, hP.oB, hP.ne⟩
  refine wp_mono (h2 a1 w1 O R B p st1 s1 hB1 hP1 (hpre.on (by omega) hI1)) ?_
  intro e a2 w2 hq
  cases e <;> try exact hq.elim
  obtain ⟨q1, q2⟩ := hq
  unfold Stp at hstp
  have hst : st1.bind (semL E fs (i + 1) tl s1) = st.bind (semL E fs i tl s) := by
   rw [hsem]
   cases hh : st.bind (semFld E f i s) with
   | none => rw [hh] at hstp; rw [hstp]; rfl
   | some y => rw [hh] at hstp; rw [hstp.1, hstp.2]; rfl
  rw [hst] at q2
  refine ⟨q1, ?_⟩
  rcases q2 with ⟨x1, x2, x3⟩ | ⟨s2, r, x1, x2, x3, x4, x5⟩
  ·exact .inl ⟨x1, x2, hcO.trans x3 fun _ _ h => h⟩
  ·exact .inr ⟨s2, r, x1, x2, hc.trans x3 fun _ _ h => h, x4, hrs.trans x5⟩
 ·obtain ⟨q1, q2, q3, q4⟩ := hq
  refine ⟨q1, .inl ⟨?_, q2, q4⟩⟩
  rw [hsem, q3]; rfl
theorem rtx_tagged (hf : fs[i]? = some f) (ht : decide (0 ≤ f.tag) = true) (h : RkT E m sS k0 fs (Fresh fs (i + 1)) (semL E fs (i + 1) tl) c) : RkT E m sS k0 fs (Fresh fs i) (semL E fs i tl) c := by
 refine rtx_mono h (fun _ h => h.up (by omega)) fun s bs hfr hlen => ?_
 rw [semL_step hf hfr hlen]
 unfold semFld
 have := of_decide_eq_true ht
 rw [if_neg (by simp; omega)]
 rfl
theorem rtx_end (hl : decide (fs.length ≤ i) = true) (h : RkT E m sS k0 fs (fun _ => True) tl c) : RkT E m sS k0 fs (Fresh fs i) (semL E fs i tl) c :=
 rtx_mono h (fun _ _ => trivial) fun s bs _ hlen => semL_end (of_decide_eq_true hl) hlen
theorem rtx_tl (hsl : rsl E m [] [sS] = true) (h1 : RkC E m sS k0 fs I (fun _ => True) tl c1) (h2 : RtC E m sS k0 fs (fun _ => True) (fun s bs => some (s, bs)) c2) : RkT E m sS k0 fs (fun _ => True) tl (.seq c1 c2) := by
 obtain ⟨hm, hw, hr, hnd⟩ := zaR hsl
 simp only [List.mem_cons, List.not_mem_nil, or_false, forall_eq] at hr
 intro a w O R B p st s hB hP hpre
 refine wp_seq (wp_mono (h1 a w O R B p st s hB hP trivial) ?_)
 intro e a1 w1 hq
 cases e <;> try exact hq.elim
 ·obtain ⟨hk, hc, hrs, st1, s1, hs1, ha1, hstp, hl, hI1⟩ := hq
  have hcO : Chg O w w1 := hc.mono fun k _ hk => by rcases hk with rfl | rfl; exact hB.oR; exact hP.oB
  have hB1 := hB.next hm hk hc (fun k hk => by rcases hk with rfl | rfl; exact hB.oR; exact hP.oB) hs1 hl
  have hP1 : RP E sS k0 fs a1 w1 O R B p s1 := ⟨(hk.slot _ hr).trans hP.pt, ha1, hP.oB, hP.ne⟩
  refine wp_mono (h2 a1 w1 O R B p st1 s1 hB1 hP1 trivial) ?_
  intro e a2 w2 hq
  cases e <;> try exact hq.elim
  obtain ⟨q1, q2⟩ := hq
  unfold Stp at hstp
  have hst : (st1.bind fun bs => some (s1, bs)) = st.bind (tl s) := by
   cases hh : st.bind (tl s) with
   | none => rw [hh] at hstp; rw [hstp]; rfl
   | some y => rw [hh] at hstp; rw [hstp.1, hstp.2]; rfl
  rw [hst] at q2
  refine ⟨q1, ?_⟩
  rcases q2 with ⟨x1, x2, x3⟩ | ⟨s2, r, x1, x2, x3, x4, x5⟩
  ·exact .inl ⟨x1, x2, hcO.trans x3 fun _ _ h => h⟩
  ·exact .inr ⟨s2, r, x1, x2, hc.trans x3 fun _ _ h => h, x4, hrs.trans x5⟩
 ·obtain ⟨q1, q2, q3, q4⟩ := hq
  exact ⟨q1, .inl ⟨q3, q2, q4⟩⟩
end
theorem Span_cL (l : Int) {w : World} {G : Nat → Prop} {R : Nat} {st : Option Bs} (hS : RdS w G R st) (hR : ¬ G R) (hf : ∀ k, w.heap.size ≤ k → G k) :
  zaE Tryz.prog 82 #[.pointer (some ⟨R, 0, none⟩), .int .i64 l] w (Reads w G R st (zbr l) fun w w' G x v => outB w w' G x v ∧ x.length ≤ stLen st) := by
 obtain ⟨oa, cap, hb, hcap, hat⟩ := hS.blk
 have l0 := hb.ld (i := 0) rfl
 refine zar Tryz.func82 rfl rfl Tryz.ntmps82 (by simp) ?_
 intro a hN hD ha
 have h0 : get a 0 = .pointer (some ⟨R, 0, none⟩) := ha 0 _ rfl
 have h1 : get a 1 = .int .i64 l := ha 1 _ rfl
 refine qsr fun K hK => ?_; (repeat ((with_reducible refine zaJ ?_ ?_ ?_); (· simp [qef, hN] <;> omega); (· kernel_rfl); try simp only [qec, hN, seval])); refine zaa (hK _ _ ?_); clear hK K
 have fail : (((st.getD []).length : Int) < l ∨ l < 0) → ∀ bs, st = some bs → zbr l bs = none := by
  rintro h bs rfl
  change (bs.length : Int) < l ∨ _ at h
  unfold zbr take?
  split
  ·rw [if_neg (by omega)]
  ·rfl
 by_cases hlt : ((st.getD []).length : Int) < l ∨ l < 0
 ·refine qsk fun K hK => ?_; refine qsk fun K0 hK0 => ?_
  by_cases g1 : ((st.getD []).length : Int) < l
  ·have d1 : decide (((st.getD []).length : Int) < l) = true := decide_eq_true g1
   refine zay ?_; (repeat (first | ((with_reducible refine zaJ ?_ ?_ ?_); (· simp [qef, hN, seval, h0, h1, l0, fo, d1] <;> omega); (· kernel_rfl); try simp only [qec, hN, seval, h0, h1, l0, fo, d1]) | ((with_reducible apply zal); (· exact rfl); (· exact rfl); (· simp [qec, hN, seval, h0, h1, l0, fo, d1]; done); try simp only [qec, hN, seval, h0, h1, l0, fo, d1]) | ((with_reducible apply zas); (· exact rfl); (· exact rfl); (· simp [qec, hN, seval, h0, h1, l0, fo, d1]; done); try simp only [qec, hN, seval, h0, h1, l0, fo, d1]) | ((with_reducible apply zat); (· exact rfl); (· exact rfl); (· simp [qec, hN, seval, h0, h1, l0, fo, d1]; done); try simp only [qec, hN, seval, h0, h1, l0, fo, d1]))); refine zaa ?_; refine hK0 _ _ ?_; try clear hK0 K0
   refine wp_cond_true (by simp only [qec, hN, seval]) ?_
   refine rd_fail (by simp only [zag]; exact hN) (by simp only [qec, hN, seval, h0]) hb (by kernel_rfl) fun a' w' k1 k2 k3 k4 => ⟨by rw [k1]; simp only [zab, hD], Reads.fail [] k4 k3 (fail hlt) ⟨⟨none, 0, k2, Nat.le_refl _, .inl rfl⟩, Nat.zero_le _⟩⟩
  ·have d1 : decide (((st.getD []).length : Int) < l) = false := decide_eq_false g1
   have d2 : decide (l < 0) = true := decide_eq_true (by omega)
   refine zay ?_; (repeat (first | ((with_reducible refine zaJ ?_ ?_ ?_); (· simp [qef, hN, seval, h0, h1, l0, fo, d1, d2] <;> omega); (· kernel_rfl); try simp only [qec, hN, seval, h0, h1, l0, fo, d1, d2]) | ((with_reducible apply zal); (· exact rfl); (· exact rfl); (· simp [qec, hN, seval, h0, h1, l0, fo, d1, d2]; done); try simp only [qec, hN, seval, h0, h1, l0, fo, d1, d2]) | ((with_reducible apply zas); (· exact rfl); (· exact rfl); (· simp [qec, hN, seval, h0, h1, l0, fo, d1, d2]; done); try simp only [qec, hN, seval, h0, h1, l0, fo, d1, d2]) | ((with_reducible apply zat); (· exact rfl); (· exact rfl); (· simp [qec, hN, seval, h0, h1, l0, fo, d1, d2]; done); try simp only [qec, hN, seval, h0, h1, l0, fo, d1, d2]))); refine zaa ?_; refine hK0 _ _ ?_; try clear hK0 K0
   refine wp_cond_true (by simp only [qec, hN, seval]) ?_
   refine rd_fail (by simp only [zag]; exact hN) (by simp only [qec, hN, seval, h0]) hb (by kernel_rfl) fun a' w' k1 k2 k3 k4 => ⟨by rw [k1]; simp only [zab, hD], Reads.fail [] k4 k3 (fail hlt) ⟨⟨none, 0, k2, Nat.le_refl _, .inl rfl⟩, Nat.zero_le _⟩⟩
 ·have d1 : decide (((st.getD []).length : Int) < l) = false := decide_eq_false (by omega)
  have d2 : decide (l < 0) = false := decide_eq_false (by omega)
  have d3 : decide (0 ≤ l) = true := decide_eq_true (by omega)
  have d4 : decide (l ≤ (cap : Int)) = true := decide_eq_true (by omega)
  have d5 : decide (l ≤ (l.toNat : Int)) = true := decide_eq_true (by omega)
  have d6 : decide (l ≤ ((st.getD []).length : Int)) = true := decide_eq_true (by omega)
  refine qsk fun K hK => ?_; refine qsr fun K0 hK0 => ?_; (repeat (first | ((with_reducible refine zaJ ?_ ?_ ?_); (· simp [qef, hN, seval, h0, h1, l0, fo, d1, d2] <;> omega); (· kernel_rfl); try simp only [qec, hN, seval, h0, h1, l0, fo, d1, d2]) | ((with_reducible apply zal); (· exact rfl); (· exact rfl); (· simp [qec, hN, seval, h0, h1, l0, fo, d1, d2]; done); try simp only [qec, hN, seval, h0, h1, l0, fo, d1, d2]) | ((with_reducible apply zas); (· exact rfl); (· exact rfl); (· simp [qec, hN, seval, h0, h1, l0, fo, d1, d2]; done); try simp only [qec, hN, seval, h0, h1, l0, fo, d1, d2]) | ((with_reducible apply zat); (· exact rfl); (· exact rfl); (· simp [qec, hN, seval, h0, h1, l0, fo, d1, d2]; done); try simp only [qec, hN, seval, h0, h1, l0, fo, d1, d2]))); refine zaa ?_; refine hK0 _ _ ?_; try clear hK0 K0
  refine wp_cond_false (by simp only [qec, hN, seval]) ?_
  refine wp_skip ?_
  refine hK _ _ ?_
  clear hK K
  refine qsr fun K hK => ?_; (repeat ((with_reducible refine zaJ ?_ ?_ ?_); (· simp [qef, hN, h0, h1, l0, fo, d3, d4, d5] <;> omega); (· kernel_rfl); try simp only [qec, hN, seval, h0, h1, l0, fo, d3, d4, d5])); refine zaa (hK _ _ ?_); clear hK K
  refine qsr fun K hK => ?_; (repeat ((with_reducible refine zaJ ?_ ?_ ?_); (· simp [qef, hN, h0, h1, l0, fo, d3, d6] <;> omega); (· kernel_rfl); try simp only [qec, hN, seval, h0, h1, l0, fo, d3, d6]))
  refine zaY (b := R) (o := 0) (n := 1) (v := .slice (if cap = l.toNat then oa else oa.map (·.add (l.toNat * 1))) ((st.getD []).length - l.toNat) (cap - l.toNat)) (by kernel_rfl) (by simp only [qec, hN, seval]) (by simp only [qec, hN, seval]; try rfl) hb rfl (by intro y hy; simp only [Value.cells, List.mem_singleton] at hy; subst hy; rfl) (by simp) fun w2 hb2 hc2 => ?_
  refine zaa (hK _ _ ?_); clear hK K
  refine qsr fun K hK => ?_; (repeat ((with_reducible refine zaJ ?_ ?_ ?_); (· simp [qef, hN, h0] <;> omega); (· kernel_rfl); try simp only [qec, hN, seval, h0])); refine zaa (hK _ _ ?_); clear hK K
  refine wp_ret ⟨by simp [zab, hD], ?_⟩; simp only [qea, hN, seval]
  have hx : ∀ g, G g → g < w.heap.size → ¬ g = R := fun g hg _ e => hR (e ▸ hg)
  cases st with
  | none =>
   have hl0 : l = 0 := by change ¬ (((0 : Nat) : Int) < l ∨ l < 0) at hlt; omega
   subst hl0
   refine ⟨hc2, ?_, [], ⟨⟨oa, 0, rfl, Nat.le_refl _, .inl rfl⟩, Nat.zero_le _⟩, fun y h => by cases h⟩
   have e : (none : Option Bs).bind (zbr 0) = none := rfl
   rw [e]
   have ho : oa = none ∧ cap = 0 := by
    have := hS.blk
    have h3 : Blk w R [.slice none 0 0, .bool true] tR := hS
    have := (hb.inj h3).1
    simp at this
    exact ⟨this.1, this.2⟩
   obtain ⟨rfl, rfl⟩ := ho
   exact hb2
  | some bs =>
   change ¬ ((bs.length : Int) < l ∨ l < 0) at hlt
   change bs.length ≤ cap at hcap
   change zav w G oa bs at hat
   have hat3 := ((bytes_rest (i := l.toNat) hat hcap).chg hc2 hx)
   have hb3 : Blk w2 R [.slice (if cap = l.toNat then oa else oa.map (·.add (l.toNat * 1))) (bs.drop l.toNat).length (cap - l.toNat), .bool false] tR := by rw [List.length_drop]; exact hb2
   have e : (bs.take l.toNat).length = l.toNat := by rw [List.length_take]; omega
   refine Reads.done (x := bs.take l.toNat) (by unfold zbr take?; rw [if_pos (by omega), if_pos (by omega)]) hc2 hb3 (by rw [List.length_drop]; omega) hat3 ⟨⟨oa, l.toNat, by rw [e], by rw [e]; exact Nat.le_refl _, (hat.take _).chg hc2 hx⟩, by rw [List.length_take]; exact Nat.min_le_right _ _⟩
section
variable {y0 y1 y2 y3 y4 y5 y6 y7 : TypeId} {q0 q1 q2 q3 q4 q5 q6 q7 : String} {e0 e1 e2 e3 e4 e5 e6 e7 : Array Edge} {r0 r1 r2 r3 r4 r5 : Nat}
variable {E : REnv} {m mB sS k0 i I x y ys aS iS t1 t2 t3 t4 t5 t6 : Nat} {fs sub : List Fld} {c : Code} {us : Array TypeId} {fn : FuncId} {T ty : Nat}
theorem el_structK {zc dc : List Value} (hty : sliceB Tryz.prog ty (ssz E.fl sub) = true) (hen : zaZ Tryz.prog fn) (hdef : DefC fn zc dc) (hz : (decide (zc.length = ssz E.fl sub) && decide (dc.length = ssz E.fl sub) && repSB E.fl sub (dfltL sub) dc) = true)
  (h : RkC ⟨E.N, E.ver, E.flex, E.fl, E.rr, none⟩ (ys + 1) ys 0 sub I (Fresh sub 0) (semL ⟨E.N, E.ver, E.flex, E.fl, E.rr, none⟩ sub 0 (tlK ⟨E.N, E.ver, E.flex, E.fl, E.rr, none⟩ sub)) c) (hfl : E.fl = true) (s1 : rsl E m [t1, t2, t3, y, t4, t5, t6, ys] [E.rr, aS, iS] = true) (s2 : decide (m ≤ (ys + 1)) = true) (s3 : rsl E (ys + 1) [] [ys] = true) :
  ElC E m aS iS (eszR E .struct sub) (oneR E .struct sub) (repR E .struct sub) zc
   (.seq (.region r0 #[⟨some t1, .move (.tmp aS), y0, q0, e0, none⟩, ⟨some t2, .move (.tmp iS), y1, q1, e1, none⟩, ⟨some t3, .indexAddr ty (.tmp t1) (.tmp t2), y2, q2, e2, none⟩, ⟨some y, .assign (.tmp t3), y3, q3, e3, none⟩] false)
    (.seq (.region r1 #[⟨some t4, .move (.tmp y), y4, q4, e4, none⟩, ⟨some t5, .call { callee := .value (.func fn), args := #[.tmp t4], argTypes := us }, y5, q5, e5, none⟩] false)
     (.seq (.region r2 #[⟨some t6, .move (.tmp y), y6, q6, e6, none⟩, ⟨some ys, .assign (.tmp t6), y7, q7, e7, none⟩] false) c))) := by
 show ElC E m aS iS (ssz E.fl sub) (oneR E .struct sub) (repR E .struct sub) zc _
 simp only [Bool.and_eq_true, decide_eq_true_eq] at hz s2
 obtain ⟨⟨z1, z2⟩, z3⟩ := hz
 obtain ⟨hm, hw, hr, hnd⟩ := zaR s1
 have hnr := nodup_rev hnd
 simp only [List.reverse_cons, List.reverse_nil, List.nil_append, List.cons_append, List.mem_cons, List.not_mem_nil, or_false, List.nodup_cons, not_or, List.nodup_nil, and_true, not_false_eq_true] at hnr
 simp only [qne, List.nodup_cons, not_or, List.nodup_nil, and_true, not_false_eq_true] at hw hnd hr
 obtain ⟨hmB, _, hrB, _⟩ := zaR s3
 intro a w O R b j n cap st cs Tb hB hOb hne ga gi hj hb hlen hseg
 have hN := hB.ok.1
 have ev : ∀ {d t : Nat} {a : Act} {v : Value}, d < a.tmps.size → get (a.put (some d) v) t = if d = t then v else get a t := fun h => get_put h
 have nA : ∀ t, m ≤ t → ¬ t = aS ∧ ¬ t = iS ∧ ¬ t = E.rr := fun t ht => by have := hr.1.1; have := hr.2.1.1; have := hr.2.2.1; omega
 have hle : (j + 1) * ssz E.fl sub ≤ n * ssz E.fl sub := Nat.mul_le_mul_right _ hj
 rw [Nat.add_mul, Nat.one_mul] at hle
 refine qsr fun K hK => ?_
 refine zam ?_
 rw [zae, ga]
 refine zam ?_
 rw [zae, ev (by rw [hN]; exact hw.1.2.1), if_neg (nA t1 hw.1.2.2).2.1, gi]
 refine zaS (b := b) (o := 0) (k := .i32) (i := j) (len := n) (cap := cap) hty (by simp only [zae, ev, zag, hN, hw, hnd, hnr, if_true, if_false]) (by simp only [zae, ev, zag, hN, hw, hnd, hnr, if_true, if_false]) hj ?_
 rw [Nat.zero_add]
 refine zah ?_
 simp only [zae, ev, zag, hN, hw, if_true]
 refine zaa (hK _ _ ?_)
 clear hK K
 refine qsr fun K hK => ?_
 refine zam ?_
 simp only [zae, ev, zag, hN, hw, if_true]
 refine zaz hen (by simp only [List.map_toArray, List.map_cons, List.map_nil, zae, ev, zag, hN, hw, if_true]; exact hdef w b (j * ssz E.fl sub) cs Tb hb (by omega) (by rw [z1]; exact hseg)) ?_
 rintro vd w1 ⟨hb1, hc1⟩
 refine zaa (hK _ _ ?_)
 clear hK K
 refine qsr fun K hK => ?_
 refine zam ?_
 simp only [zae, ev, zag, hN, hw, hnd, hnr, if_true, if_false]
 refine zah ?_
 simp only [zae, ev, zag, hN, hw, hnd, hnr, if_true, if_false]
 refine zaa (hK _ _ ?_)
 clear hK K
 have hXb : ∀ k, ¬ O k → k < w.heap.size → ¬ k = b := fun k hk _ e => hk (e ▸ hOb)
 have hrs1 : RdS w1 (fun g => ¬ O g) R st := hB.rs.stay (zbk.of hc1 hXb) (hc1.block R hB.rs.lt hne)
 obtain ⟨a8, ha8⟩ : ∃ a8, a8 = (((((((a.put (some t1) (.slice (some ⟨b, 0, none⟩) n cap)).put (some t2) (.int .i32 j)).put (some t3) (.pointer (some ⟨b, j * ssz E.fl sub, none⟩))).put (some y) (.pointer (some ⟨b, j * ssz E.fl sub, none⟩))).put (some t4) (.pointer (some ⟨b, j * ssz E.fl sub, none⟩))).put (some t5) vd).put (some t6) (.pointer (some ⟨b, j * ssz E.fl sub, none⟩))).put (some ys) (.pointer (some ⟨b, j * ssz E.fl sub, none⟩)) := ⟨_, rfl⟩
 rw [← ha8]
 have hk8 : zan (RS m) a a8 := by
  rw [ha8]
  exact ((((((((zan.refl _ _).put hw.1.1 _).put hw.2.1.1 _).put hw.2.2.1.1 _).put hw.2.2.2.1.1 _).put hw.2.2.2.2.1.1 _).put hw.2.2.2.2.2.1.1 _).put hw.2.2.2.2.2.2.1.1 _).put hw.2.2.2.2.2.2.2.1 _
 have g8 : get a8 ys = .pointer (some ⟨b, j * ssz E.fl sub, none⟩) := by rw [ha8, zad (by simp only [zag, hN]; exact hw.2.2.2.2.2.2.2.2.1)]
 clear ha8
 have hB8 : RB E a8 w1 O R st := hB.next hm hk8 hc1 (fun k h => by rw [h]; exact hOb) hrs1 (Nat.le_refl _)
 have hl1 : (zaB cs (j * ssz E.fl sub) dc).length = cs.length := za3 (by omega)
 have hat : AtE (knE ⟨E.N, E.ver, E.flex, E.fl, E.rr, none⟩) w1 O sub ⟨dfltL sub, []⟩ b (j * ssz E.fl sub + 0) := by
  refine ⟨_, _, hb1, by rw [hl1]; show _ + ssz E.fl sub ≤ _; omega, ?_⟩
  have hsg := splice_seg' (cs := cs) (dc := dc) (off := j * ssz E.fl sub) (by omega)
  rw [z2] at hsg
  rw [Nat.add_zero]
  show ∃ v1 v2, ((zaB cs (j * ssz E.fl sub) dc).drop (j * ssz E.fl sub)).take (ssz E.fl sub) = v1 ++ v2 ∧ _
  rw [hsg]
  exact AtE.ofK (E := ⟨E.N, E.ver, E.flex, E.fl, E.rr, none⟩) hfl z3
 have hP8 : RP (knE ⟨E.N, E.ver, E.flex, E.fl, E.rr, none⟩) ys 0 sub a8 w1 O R b (j * ssz E.fl sub) ⟨dfltL sub, []⟩ := ⟨g8, hat, hOb, hne⟩
 refine wp_mono (h a8 w1 O R b (j * ssz E.fl sub) st ⟨dfltL sub, []⟩ (hB8.st none) hP8 (fresh0 sub)) ?_
 intro e a9 w9 hq
 cases e <;> try exact hq.elim
 ·obtain ⟨hk, hc, hrest, st1, s1', hs1, ha1, hstp, hl, _⟩ := hq
  have hstp' : Stp (semL E sub 0 (tlP E sub)) st ⟨dfltL sub, []⟩ st1 s1' := hstp
  obtain ⟨e1, e2⟩ := hstp'.part
  obtain ⟨cs9, h91, h92, h93⟩ := hrest _ _ hb1
  refine ⟨hk8.trans (hk.mono fun t ht => ⟨by have := ht.1; omega, ht.2⟩), (hc1.mono fun _ _ h => Or.inr h).trans hc fun _ _ h => h, by rw [e1] at hs1; exact hs1, by rw [e1] at hl; exact hl, cs9, s1'.d, h91, by rw [h92, hl1], fun k hk' => ?_, ?_, e2⟩
  ·rw [h93 k (by omega)]
   rcases hk' with hk' | hk'
   ·exact zbi (by omega) (by omega)
   ·exact zbh (by omega) (by omega)
  ·obtain ⟨cs0, T0, q1, q2, q3⟩ := ha1.at rfl
   obtain ⟨rfl, _⟩ := q1.inj h91
   rw [Nat.add_zero] at q3
   exact ⟨s1', rfl, q3⟩
 ·obtain ⟨f1, f2, f3, f4⟩ := hq
  refine ⟨f1, f2, ?_, (hc1.mono fun k _ h => by rw [h]; exact hOb : Chg O w w1).trans f4 fun _ _ h => h⟩
  cases st with
  | none => rfl
  | some bs =>
   rw [Option.bind_some] at f3 ⊢
   show (zbt E.flex E.ver sub bs).map _ = none
   rw [part_sem]
   have f3' : semL E sub 0 (tlP E sub) ⟨dfltL sub, []⟩ bs = none := f3
   rw [f3']; rfl
end
section
variable {y0 y1 y2 y3 y4 y5 y6 y7 y8 y9 y10 y11 y12 y13 y14 y15 y16 y17 y18 : TypeId} {q0 q1 q2 q3 q4 q5 q6 q7 q8 q9 q10 q11 q12 q13 q14 q15 q16 q17 q18 : String} {e0 e1 e2 e3 e4 e5 e6 e7 e8 e9 e10 e11 e12 e13 e14 e15 e16 e17 e18 : Array Edge} {r0 r1 r2 r3 r4 r5 : Nat}
variable {E : REnv} {m sS B R T : Nat} {N : Nat} {us us2 : Array TypeId} {fs : List Fld} {c : Code} {dc : List Value} {ver : Int} {a : Act} {w w0 : World} {oa : Option Addr} {bs : Bs} {cap : Nat} {fnD : FuncId} {Q : Exit → Act → World → Prop} {r6 r7 r8 r9 : Nat}
theorem read_endK {k0 : Nat} {E : REnv} (hk0 : k0 = 1) (h : RkT E m sS k0 fs (Fresh fs 0) (semL E fs 0 (tlK E fs)) c) (hB : RB E a w (fun g => g = B ∨ g = R) R (some bs)) (hP : RP (knE E) sS k0 fs a w (fun g => g = B ∨ g = R) R B 0 ⟨dfltL fs, []⟩)
  (hb : ∃ cs T, Blk w B cs T ∧ cs[0]? = some (.int .i16 ver)) (hc : Chg (fun k => k = B) w0 w) (hR : w0.heap.size ≤ R) (hv : E.ver = ver) : c.wp Tryz.prog (Fin 6 (ReadP w0 E.fl E.flex ver fs B bs)) a w := by
 subst hk0 hv
 refine wp_mono (h a w _ R B 0 (some bs) _ hB hP (fresh0 fs)) ?_
 intro e a1 w1 hq
 cases e <;> try exact hq.elim
 obtain ⟨hd, hq⟩ := hq
 have eK : semL E fs 0 (tlK E fs) ⟨dfltL fs, []⟩ = semL E fs 0 (tlP E fs) ⟨dfltL fs, []⟩ := rfl
 rw [eK] at hq
 rw [Option.bind_some, ← part_sem] at hq
 refine ⟨hd, ?_⟩
 rcases hq with ⟨k1, ⟨t, x, k2⟩, k3⟩ | ⟨s, r, k1, k2, k3, k4, k5⟩
 ·exact ⟨hc.trans k3 fun k hk h => by rcases h with h | h; exact h; omega, .inl ⟨k1, t, x, k2⟩⟩
 ·refine ⟨hc.trans k3 fun k hk h => by rcases h with h | h; omega; exact h, .inr ⟨s, r, k1, k2, ?_, ?_⟩⟩
  ·rw [Nat.zero_add] at k4
   exact k4.stay (zbk.sub fun k _ h hb => h (.inl hb)) rfl
  ·obtain ⟨cs, T, q1, q2⟩ := hb
   obtain ⟨cs', q3, q4, q5⟩ := k5 cs T q1
   exact ⟨cs', T, q3, by rw [q5 0 (.inl (by omega))]; exact q2⟩
theorem read_flexK {fn : FuncId} {func : Func} {N t1 t2 t3 t4 T ty u v1 v2 v3 v4 v5 v6 v7 v8 v9 fnD : Nat} {vf : Int} {fs : List Fld} {c : Code} {dc : List Value}
  (hfn : (Tryz.prog).funcs[fn]? = some func)
  (hbody : func.body = some (.seq (.region r0 #[⟨some 6, .assign (.const .nilIface), y0, q0, e0, none⟩] false) (.seq (.region r1 #[⟨some t1, .move (.tmp 0), y1, q1, e1, none⟩, ⟨some t2, .call { callee := .value (.func fnD), args := #[.tmp t1], argTypes := us }, y2, q2, e2, none⟩] false)
   (.seq (.region r2 #[⟨some t3, .move (.tmp 1), y3, q3, e3, none⟩, ⟨some t4, .build tR #[(0, .tmp t3)], y4, q4, e4, none⟩, ⟨some 7, .alloc tR, y5, q5, e5, none⟩, ⟨none, .store tR (.tmp 7) (.tmp t4), y6, q6, e6, none⟩] false)
    (.seq (.region r3 #[⟨some v1, .move (.tmp 0), y7, q7, e7, none⟩, ⟨some v2, .nilCheck (.tmp v1), y8, q8, e8, none⟩, ⟨some v3, .fieldAddr T (.tmp v2) 0, y9, q9, e9, none⟩, ⟨some v4, .load ty (.tmp v3), y10, q10, e10, none⟩, ⟨some 8, .assign (.tmp v4), y11, q11, e11, none⟩] false)
    (.seq (.region r4 #[⟨some v5, .move (.tmp 8), y12, q12, e12, none⟩] false) (.seq (.region r5 #[⟨some v7, .move (.tmp 8), y13, q13, e13, none⟩, ⟨some v8, .binOp .geq u (.tmp v7) (.const (.int .i16 vf)) u, y14, q14, e14, none⟩, ⟨some 9, .assign (.tmp v8), y15, q15, e15, none⟩] false) (.seq (.region r6 #[⟨some v9, .move (.tmp 9), y16, q16, e16, none⟩] false) (.seq (.region r7 #[⟨some v6, .move (.tmp 0), y17, q17, e17, none⟩, ⟨some 10, .assign (.tmp v6), y18, q18, e18, none⟩] false) c)))))))))
  (hres : func.results = #[.tmp 6]) (hNf : func.ntmps = N) (hen : zaZ Tryz.prog fnD) (hdef : DefM fnD dc)
  (hF : ((decide ((0 :: 1 :: 2 :: 6 :: 7 :: 8 :: 9 :: 10 :: [t1, t2, t3, t4]).Nodup) && [0, 1, 2, 6, 7, 8, t1, t2, t3, t4].all (fun t => decide (t < N))) && decide ((0 :: 1 :: 2 :: 7 :: 8 :: 9 :: 10 :: [v1, v2, v3, v4, v5, v6, v7, v8, v9]).Nodup) && [8, 9, 10, v1, v2, v3, v4, v5, v6, v7, v8, v9].all (fun t => decide (t < N)) && zbc Tryz.prog T 0 0 1 && scalB Tryz.prog ty && repSB true fs (dfltL fs) dc && decide (dc.length = ssz true fs)) = true)
  (h : ∀ ver : Int, 0 ≤ ver → RkT ⟨N, ver, decide (vf ≤ ver), true, 7, none⟩ 11 10 1 fs (Fresh fs 0) (semL ⟨N, ver, decide (vf ≤ ver), true, 7, none⟩ fs 0 (tlK ⟨N, ver, decide (vf ≤ ver), true, 7, none⟩ fs)) c) : ReadsF fn true (fun ver => decide (vf ≤ ver)) fs dc [.bool false] := by
 simp only [Bool.and_eq_true, decide_eq_true_eq (p := List.Nodup _), decide_eq_true_eq (p := dc.length = _)] at hF
 obtain ⟨⟨⟨⟨⟨⟨hF0, hnd⟩, hlt⟩, f1⟩, f2⟩, f3⟩, f4⟩ := hF
 simp only [List.all_eq_true, decide_eq_true_eq] at hlt
 simp only [qne, List.nodup_cons, not_or, List.nodup_nil, and_true, not_false_eq_true] at hnd hlt
 intro ver w B Tm oa bs cap hver hb hsrc hcap hlim hBE herr
 refine zar hfn hbody hres hNf (by show 3 ≤ N; omega) ?_
 intro a hN hD ha
 have h0 : get a 0 = .pointer (some ⟨B, 0, none⟩) := ha 0 _ rfl
 have h1 : get a 1 = .slice oa bs.length cap := ha 1 _ rfl
 have h2 : get a 2 = .bool false := ha 2 _ rfl
 refine read_start hN hD h0 h1 (by simp only [Bool.and_eq_true]; exact ⟨decide_eq_true hF0.1, hF0.2⟩) hen hdef hb hsrc hcap hlim hBE herr fun a1 w1 R hk g7 hr hb1 hc hR1 hR2 hRB herr1 => ?_
 have hN1 : a1.tmps.size = N := hk.size.trans hN
 have hD1 : a1.defers = [] := hk.defers.trans hD
 have g0 : get a1 0 = .pointer (some ⟨B, 0, none⟩) := (hk.slot 0 (.inl rfl)).trans h0
 have g2 : get a1 2 = .bool false := (hk.slot 2 (.inr (.inr rfl))).trans h2
 clear hF0 hk ha h0 h1 h2
 refine qsr fun K hK => ?_
 refine zam ?_
 simp only [zae, zai, zad, zaf, zak, ne_eq, zag, hN1, hnd, hlt, not_false_eq_true, g0, g2, g7]
 refine zaI (p := ⟨B, 0, none⟩) (by simp only [zae, zai, zad, zaf, zak, ne_eq, zag, hN1, hnd, hlt, not_false_eq_true, g0, g2, g7]) ?_
 refine zaC (b := B) (o := 0) f1 (by simp only [zae, zai, zad, zaf, zak, ne_eq, zag, hN1, hnd, hlt, not_false_eq_true, g0, g2, g7]) ?_
 refine zaQ (b := B) (o := 0 + 0) f2 (by simp only [zae, zai, zad, zaf, zak, ne_eq, zag, hN1, hnd, hlt, not_false_eq_true, g0, g2, g7]) hb1 rfl ?_
 refine zah ?_
 simp only [zae, zai, zad, zaf, zak, ne_eq, zag, hN1, hnd, hlt, not_false_eq_true, g0, g2, g7]
 refine zaa (hK _ _ ?_)
 clear hK K
 refine qsr fun K hK => ?_
 refine zam ?_
 simp only [zae, zai, zad, zaf, zak, ne_eq, zag, hN1, hnd, hlt, not_false_eq_true, g0, g2, g7]
 refine zaa (hK _ _ ?_)
 clear hK K
 refine qsr fun K hK => ?_
 refine zam ?_
 simp only [zae, zai, zad, zaf, zak, ne_eq, zag, hN1, hnd, hlt, not_false_eq_true, g0, g2, g7]
 refine wl_geq (by simp only [zae, zai, zad, zaf, zak, ne_eq, zag, hN1, hnd, hlt, not_false_eq_true, g0, g2, g7]; rfl) ?_
 simp only [zae, zai, zad, zaf, zak, ne_eq, zag, hN1, hnd, hlt, not_false_eq_true, g0, g2, g7]
 simp only [cmp2]
 refine zah ?_
 simp only [zae, zai, zad, zaf, zak, ne_eq, zag, hN1, hnd, hlt, not_false_eq_true, g0, g2, g7]
 refine zaa (hK _ _ ?_)
 clear hK K
 refine qsr fun K hK => ?_
 refine zam ?_
 simp only [zae, zai, zad, zaf, zak, ne_eq, zag, hN1, hnd, hlt, not_false_eq_true, g0, g2, g7]
 refine zaa (hK _ _ ?_)
 clear hK K
 refine qsr fun K hK => ?_
 refine zam ?_
 simp only [zae, zai, zad, zaf, zak, ne_eq, zag, hN1, hnd, hlt, not_false_eq_true, g0, g2, g7]
 refine zah ?_
 simp only [zae, zai, zad, zaf, zak, ne_eq, zag, hN1, hnd, hlt, not_false_eq_true, g0, g2, g7]
 refine zaa (hK _ _ ?_)
 clear hK K
 refine read_endK (E := ⟨N, ver, decide (vf ≤ ver), true, 7, none⟩) rfl (h ver hver) ⟨⟨by simp only [zag, hN1], by simp only [zab, hD1], by simp only [zae, zai, zad, zaf, zak, ne_eq, zag, hN1, hnd, hlt, not_false_eq_true, g0, g2, g7], by simp only [zae, zai, zad, zaf, zak, ne_eq, zag, hN1, hnd, hlt, not_false_eq_true, g0, g2, g7], fun e => by simp only [zae, zai, zad, zaf, zak, ne_eq, zag, hN1, hnd, hlt, not_false_eq_true, g0, g2, g7]⟩, by simp only [zae, zai, zad, zaf, zak, ne_eq, zag, hN1, hnd, hlt, not_false_eq_true, g0, g2, g7], hr, .inr rfl, fun h => ?_, herr1, fun k hk h => ?_, hlim⟩ ⟨by simp only [zae, zai, zad, zaf, zak, ne_eq, zag, hN1, hnd, hlt, not_false_eq_true, g0, g2, g7], ⟨_, _, hb1, ?_, ?_⟩, .inl rfl, hRB⟩ ⟨_, _, hb1, rfl⟩ hc hR1 rfl
 ·clear hnd
  rcases h with h | h
  ·exact hBE h.symm
  ·rw [← h] at hR1
   have := gE_lt herr
   omega
 ·clear hnd
  rcases h with h | h
  ·have := hb1.lt; omega
  ·omega
 ·clear hnd
  simp only [List.length_cons]; omega
 ·clear hnd
  rw [show (0 : Nat) + 1 = 1 from rfl, List.drop_succ_cons, List.drop_zero, List.take_of_length_le (by simp only; omega)]
  exact AtE.ofK (E := ⟨N, ver, decide (vf ≤ ver), true, 7, none⟩) rfl f3
end
set_option maxHeartbeats 4000000
theorem AtE.goK {E E' : REnv} {w w' : World} {O O' : Nat → Prop} {fs : List Fld} {s s' : S} {B o : Nat} {v : Value} (h : AtE E w O fs s B o) (hj : E.jk = some v) (hj' : E'.jk = some v) (hfl : E'.fl = E.fl) (hs : s'.ds = s.ds)
  (st : zbk w w' (fun g => ¬ O g) (fun g => ¬ O' g)) (hB : w'.heap[B]? = w.heap[B]?) : AtE E' w' O' fs s' B o := by
 obtain ⟨cs, T, h1, h2, v1, v2, h3, h4, h5⟩ := h
 unfold TgX at h5
 rw [hj] at h5
 refine ⟨cs, T, hB.trans h1, by rw [hfl]; exact h2, v1, v2, by rw [hfl]; exact h3, by rw [hs, hfl]; exact RepL.stay st h4, ?_⟩
 unfold TgX
 rw [hj', hfl]
 exact h5
structure KI (E : REnv) (k0 : Nat) (fs : List Fld) (w : World) (O : Nat → Prop) (R B p : Nat) (st : Option Bs) (w' : World) (m : Option Nat) (tg : zbb) (sc : Option Bs) (ds : List D) : Prop where
 chg : Chg (fun k => k = R ∨ k = B) w w'
 rest : Rest w w' B (p + k0) (ssz E.fl fs)
 rd : RdS w' (fun g => ¬ (O g ∨ some g = m)) R sc
 at_ : AtE ⟨E.N, E.ver, E.flex, E.fl, E.rr, some (.map m)⟩ w' (fun g => O g ∨ some g = m) fs ⟨ds, []⟩ B (p + k0)
 tg : TagsAt w' (fun g => ¬ O g) m tg
 mr : ∀ r, m = some r → w.heap.size ≤ r ∧ r < w'.heap.size
 len : stLen sc ≤ stLen st
section
variable {E : REnv} {k0 sS : Nat} {fs : List Fld} {w w' w'' : World} {O : Nat → Prop} {R B p : Nat} {st sc : Option Bs} {m m' : Option Nat} {tg : zbb} {ds : List D} {a : Act} {s : S}
theorem KI.start (hB : RB E a w O R st) (hP : RP (knE E) sS k0 fs a w O R B p s) : KI E k0 fs w O R B p st w none [] st s.ds := by
 have hs : zbk w w (fun g => ¬ O g) (fun g => ¬ (O g ∨ some g = none)) := ⟨fun k _ h => ⟨rfl, by rintro (h1 | h1); exact h h1; cases h1⟩⟩
 exact ⟨Chg.refl _ _, Rest.of rfl, hB.rs.stay hs rfl, hP.at_.goK rfl rfl rfl rfl hs rfl, .inl ⟨rfl, rfl⟩, fun r h => (by cases h), Nat.le_refl _⟩
theorem KI.new (h : KI E k0 fs w O R B p st w' m tg sc ds) (hB : RB E a w O R st) : ∀ k, w'.heap.size ≤ k → ¬ (O k ∨ some k = m) := by
 intro k hk
 have := h.chg.size
 rintro (h1 | h1)
 ·exact hB.new k (by omega) h1
 ·have := (h.mr k h1.symm).2; omega
theorem KI.read {α : Type} {sem : Bs → Option (α × Bs)} {out : World → World → (Nat → Prop) → α → Value → Prop} {v : Value} (h : KI E k0 fs w O R B p st w' m tg sc ds) (oR : O R) (ne : R ≠ B) (hr : Reads w' (fun g => ¬ (O g ∨ some g = m)) R sc sem out v w'') (hl : Less sem) :
  KI E k0 fs w O R B p st w'' m tg ((sc.bind sem).map (·.2)) ds := by
 have hb : w''.heap[B]? = w'.heap[B]? := by
  obtain ⟨_, _, q, _⟩ := h.at_
  exact hr.chg.block B q.lt fun e => ne e.symm
 refine ⟨h.chg.trans hr.chg fun _ _ h => .inl h, h.rest.trans (Rest.of hb), hr.rd, h.at_.goK rfl rfl rfl rfl (zbk.of hr.chg fun k hk _ e => hk (e ▸ .inl oR)) hb, h.tg.stay (zbk.of hr.chg fun k hk _ e => hk (e ▸ oR)), fun r hr' => ?_, Nat.le_trans (hl.st sc) h.len⟩
 have := h.mr r hr'
 have := hr.chg.size
 omega
theorem KI.cell (h : KI E k0 fs w O R B p st w' m tg sc ds) (hfl : E.fl = true) : ∃ cs T, Blk w' B cs T ∧ cs[p + (k0 + lsz true fs)]? = some (.map m) := by
 obtain ⟨cs, T, h1, h2, v1, v2, h3, h4, h5, _⟩ := h.at_
 subst h5
 change (cs.drop (p + k0)).take (ssz E.fl fs) = _ at h3
 change p + k0 + ssz E.fl fs ≤ _ at h2
 have l1 : v1.length = lsz E.fl fs := h4.len.1
 rw [hfl] at h3 h2 l1
 have hsz : ssz true fs = lsz true fs + 1 := rfl
 refine ⟨cs, T, h1, ?_⟩
 have e : p + (k0 + lsz true fs) = p + k0 + lsz true fs := by omega
 rw [e, ← seg_get (n := ssz true fs) (by omega), h3, List.getElem?_append_right (by omega), l1]
 simp
theorem KI.set {w3 : World} {k : Nat} {l : Bs} {cs : List Value} {T : TypeId} (h : KI E k0 fs w O R B p st w' m tg sc ds) (hfl : E.fl = true) (oB : O B) (oR : O R) (ne : R ≠ B) (hb : Blk w' B cs T) (hb3 : Blk w3 B (zaB cs (p + (k0 + lsz true fs)) [.map m']) T) (ht3 : TagsAt w3 (fun g => ¬ O g) m' (tagSet tg k l))
  (hc3 : Chg (fun j => j = B ∨ some j = m) w' w3) (hm : m' = m ∨ ∃ r, m' = some r ∧ w'.heap.size ≤ r) : KI E k0 fs w O R B p st w3 m' (tagSet tg k l) sc ds := by
 have hs3 := hc3.size
 have hs0 := h.chg.size
 have hsz : ssz true fs = lsz true fs + 1 := rfl
 have stG : zbk w' w3 (fun g => ¬ (O g ∨ some g = m)) (fun g => ¬ (O g ∨ some g = m')) := ⟨fun j hj hg => by
  refine ⟨hc3.block j hj ?_, ?_⟩
  ·rintro (e | e)
   ·exact hg (e ▸ .inl oB)
   ·exact hg (.inr e)
  ·rintro (e | e)
   ·exact hg (.inl e)
   ·rcases hm with rfl | ⟨r, rfl, hr⟩
    ·exact hg (.inr e)
    ·cases e; omega⟩
 obtain ⟨cs0, T0, q1, q2, v1, v2, q3, q4, q5, q6⟩ := h.at_
 obtain ⟨rfl, rfl⟩ := q1.inj hb
 subst q5
 change (cs0.drop (p + k0)).take (ssz E.fl fs) = _ at q3
 change p + k0 + ssz E.fl fs ≤ _ at q2
 change RepL _ _ E.fl _ _ _ at q4
 have l1 : v1.length = lsz E.fl fs := q4.len.1
 rw [hfl] at q2 q3 l1
 have hlen : p + k0 + lsz true fs + ([.map m'] : List Value).length ≤ cs0.length := by simp only [List.length_singleton]; omega
 rw [← Nat.add_assoc] at hb3
 refine ⟨h.chg.trans hc3 fun n hn e => ?_, h.rest.trans ?_, h.rd.stay stG (hc3.block R h.rd.lt ?_), ⟨_, _, hb3, ?_, v1, [.map m'], ?_, RepL.stay stG q4, rfl, q6⟩, ht3, fun r hr => ?_, h.len⟩
 ·rcases e with e | e
  ·exact .inr e
  ·have := (h.mr n e.symm).1; omega
 ·intro cs1 T1 hb1
  obtain ⟨rfl, rfl⟩ := hb1.inj hb
  rw [hfl]
  refine ⟨_, hb3, za3 hlen, fun j hj => ?_⟩
  rcases hj with hj | hj
  ·exact zbi hlen (by omega)
  ·exact zbh hlen (by simp only [List.length_singleton]; omega)
 ·rintro (e | e)
  ·exact ne e
  ·have h2 := h.rd
   obtain ⟨_, _, h3, _⟩ := h2.blk
   rcases h.tg with ⟨e', _⟩ | ⟨r, es, c, e1, e2, _⟩
   ·rw [e'] at e; cases e
   ·rw [e1] at e; cases e; exact e2 oR
 ·show _ + ssz E.fl fs ≤ _
  rw [hfl, za3 hlen]; exact q2
 ·show List.take (ssz E.fl fs) _ = _
  rw [hfl, seg_splice (by simp only [List.length_singleton]; omega) q2, q3]
  unfold zaB
  rw [List.take_append_of_le_length (by omega), List.take_of_length_le (by omega), List.drop_of_length_le (by simp only [List.length_append, List.length_singleton]; omega), List.append_nil]
 ·rcases hm with rfl | ⟨r', rfl, hr'⟩
  ·have := h.mr r hr; omega
  ·cases hr
   rcases ht3 with ⟨e, _⟩ | ⟨r2, es, c, e1, e2, e3, _⟩
   ·cases e
   ·cases e1
    exact ⟨by omega, (Array.getElem?_eq_some_iff.1 e3).1⟩
theorem KI.inRB {w5 : World} {X cap : Nat} {oa : Option Addr} {l : Bs} {a5 : Act} (h : KI E k0 fs w O R B p st w' m tg sc ds) (hB : RB E a w O R st) (oB : O B) (hc : Chg (fun _ => False) w' w5) (hb5 : Blk w5 w'.heap.size [.slice oa l.length cap, .bool false] tR) (hcap : l.length ≤ cap)
  (hl : zav w' (fun g => ¬ (O g ∨ some g = m)) oa l) (hlen : l.length ≤ RLIM) (hok : ROK E a5) (hx : get a5 X = .pointer (some ⟨w'.heap.size, 0, none⟩)) :
  RB ⟨E.N, E.ver, E.flex, E.fl, X, some (.map m)⟩ a5 w5 (fun g => (O g ∨ some g = m) ∨ g = w'.heap.size) w'.heap.size (some l) := by
 have hs := h.chg.size
 have hg := gE_lt hB.err
 have e5 := ((hB.err.chg h.chg (by rintro (e | e); exact hB.oE (e ▸ hB.oR); exact hB.oE (e ▸ oB))).chg hc fun h => h)
 refine ⟨hok, hx, ⟨oa, cap, hb5, hcap, hl.stay ⟨fun k hk hg => ⟨hc.block k hk (fun h => h), by rintro (e | e); exact hg e; omega⟩⟩⟩, .inr rfl, ?_, e5, ?_, hlen⟩
 ·rintro ((e | e) | e)
  ·exact hB.oE e
  ·have := (h.mr _ e.symm).1; omega
  ·omega
 ·intro k hk
  have := hb5.lt
  rintro (e | e)
  ·exact h.new hB k (by omega) e
  ·omega
theorem KI.inRP {w5 : World} {X : Nat} {a5 : Act} (h : KI E k0 fs w O R B p st w' m tg sc ds) (oB : O B) (hc : Chg (fun _ => False) w' w5) (hx : get a5 sS = .pointer (some ⟨B, p, none⟩)) :
  RP ⟨E.N, E.ver, E.flex, E.fl, X, some (.map m)⟩ sS k0 fs a5 w5 (fun g => (O g ∨ some g = m) ∨ g = w'.heap.size) w'.heap.size B p ⟨ds, []⟩ := by
 have hb : B < w'.heap.size := by
  obtain ⟨_, _, q, _⟩ := h.at_
  exact q.lt
 exact ⟨hx, h.at_.goK rfl rfl rfl rfl ⟨fun k hk hg => ⟨hc.block k hk (fun h => h), by rintro (e | e); exact hg e; omega⟩⟩ (hc.block B hb fun h => h), .inl (.inl oB), by omega⟩
theorem KI.inner {w5 w6 : World} {X : Nat} {s2 : S} (h : KI E k0 fs w O R B p st w' m tg sc ds) (oB : O B) (oR : O R) (ne : R ≠ B) (hc : Chg (fun _ => False) w' w5) (hc6 : Chg (fun k => k = w'.heap.size ∨ k = B) w5 w6) (hr6 : Rest w5 w6 B (p + k0) (ssz E.fl fs))
  (ha6 : AtE ⟨E.N, E.ver, E.flex, E.fl, X, some (.map m)⟩ w6 (fun g => (O g ∨ some g = m) ∨ g = w'.heap.size) fs s2 B (p + k0)) : KI E k0 fs w O R B p st w6 m tg sc s2.ds := by
 have hs0 := h.chg.size
 have hs5 := hc.size
 have hs6 := hc6.size
 have hb : B < w'.heap.size := by
  obtain ⟨_, _, q, _⟩ := h.at_
  exact q.lt
 have key : ∀ k, k < w'.heap.size → k ≠ B → w6.heap[k]? = w'.heap[k]? := fun k hk hkB => (hc6.block k (by omega) (by rintro (e | e); omega; exact hkB e)).trans (hc.block k hk fun h => h)
 have stG : zbk w' w6 (fun g => ¬ (O g ∨ some g = m)) (fun g => ¬ (O g ∨ some g = m)) := ⟨fun k hk hg => ⟨key k hk fun e => hg (e ▸ .inl oB), hg⟩⟩
 refine ⟨(h.chg.trans hc fun _ _ h => h.elim).trans hc6 fun n hn e => ?_, (h.rest.trans (Rest.of (hc.block B hb fun h => h))).trans hr6, h.rd.stay stG (key R h.rd.lt ne), ha6.goK rfl rfl rfl rfl ⟨fun k hk hg => ⟨rfl, fun e => hg (.inl e)⟩⟩ rfl, h.tg.stay ⟨fun k hk hg => ⟨key k hk fun e => hg (e ▸ oB), hg⟩⟩, fun r hr => ?_, h.len⟩
 ·rcases e with e | e
  ·omega
  ·exact .inr e
 ·have := h.mr r hr; omega
theorem KI.failed {w5 w6 : World} (h : KI E k0 fs w O R B p st w' m tg sc ds) (oB : O B) (oR : O R) (hc : Chg (fun _ => False) w' w5) (hc6 : Chg (fun g => (O g ∨ some g = m) ∨ g = w'.heap.size) w5 w6) : Chg O w w6 := by
 have hs0 := h.chg.size
 refine ((h.chg.mono fun k _ e => by rcases e with rfl | rfl; exact oR; exact oB : Chg O w w').trans hc fun _ _ h => h.elim).trans hc6 fun n hn e => ?_
 rcases e with (e | e) | e
 ·exact e
 ·have := (h.mr n e.symm).1; omega
 ·omega
theorem KI.fin (h : KI E k0 fs w O R B p st w' m tg sc ds) (hfl : E.fl = true) (hok : ∀ t, tagOK t) (hj : E.jk = none) : RdS w' (fun g => ¬ O g) R sc ∧ AtE E w' O fs ⟨ds, tg⟩ B (p + k0) := by
 have stG : zbk w' w' (fun g => ¬ (O g ∨ some g = m)) (fun g => ¬ O g) := ⟨fun k hk hg => ⟨rfl, fun e => hg (.inl e)⟩⟩
 refine ⟨h.rd.stay stG rfl, ?_⟩
 obtain ⟨cs0, T0, q1, q2, v1, v2, q3, q4, q5, q6⟩ := h.at_
 refine ⟨cs0, T0, q1, q2, v1, v2, q3, RepL.stay stG q4, ?_⟩
 unfold TgX
 rw [hj]
 show RepT _ _ _ _ _
 rw [hfl]
 unfold RepT
 rw [if_pos rfl]
 exact ⟨m, q5, h.tg, hok _⟩
variable {known : Nat → Option (Nat × (Bs → Option D))} {i : Nat} {f2 : Bs → Option D}
def Kn0 (known : Nat → Option (Nat × (Bs → Option D))) (i : Nat) (f2 : Bs → Option D) : Prop := ∀ k, known k = if k = 0 then some (i, f2) else none
theorem tot_dflt (hk : Kn0 known i f2) {j x1 x2 : Nat} {l : Bs} (e1 : ∀ y, sc.bind zaO = some y → x1 = y.1) (e2 : ∀ y, ((sc.bind zaO).map (·.2)).bind zaO = some y → x2 = y.1)
  (e3 : ∀ y, ((((sc.bind zaO).map (·.2)).bind zaO).map (·.2)).bind (zbr x2) = some y → l = y.1) (h1 : x1 ≠ 0) :
  sc.bind (rTagged known (j + 1) ⟨ds, tg⟩) = ((((((sc.bind zaO).map (·.2)).bind zaO).map (·.2)).bind (zbr x2)).map (·.2)).bind (rTagged known j ⟨ds, tagSet tg x1 l⟩) := by
 cases sc with
 | none => rfl
 | some bs =>
  simp only [Option.bind_some] at e1 e2 e3 ⊢
  rw [rTagged]
  dsimp only
  cases a1 : zaO bs with
  | none => rfl
  | some y1 =>
   rw [a1] at e1 e2 e3
   simp only [Option.map_some, Option.bind_some] at e1 e2 e3 ⊢
   have := e1 y1 rfl
   subst this
   cases a2 : zaO y1.2 with
   | none => rfl
   | some y2 =>
    rw [a2] at e2 e3
    simp only [Option.map_some, Option.bind_some] at e2 e3 ⊢
    have := e2 y2 rfl
    subst this
    cases a3 : zbr (y2.1 : Int) y2.2 with
    | none => rfl
    | some y3 =>
     simp only [Option.map_some, Option.bind_some]
     have := e3 y3 a3
     subst this
     rw [hk y1.1, if_neg h1]
theorem tot_case (hk : Kn0 known i f2) {j x1 x2 : Nat} {l : Bs} (e1 : ∀ y, sc.bind zaO = some y → x1 = y.1) (e2 : ∀ y, ((sc.bind zaO).map (·.2)).bind zaO = some y → x2 = y.1)
  (e3 : ∀ y, ((((sc.bind zaO).map (·.2)).bind zaO).map (·.2)).bind (zbr x2) = some y → l = y.1) (h1 : x1 = 0) :
  sc.bind (rTagged known (j + 1) ⟨ds, tg⟩) = (f2 l).bind fun d => ((((((sc.bind zaO).map (·.2)).bind zaO).map (·.2)).bind (zbr x2)).map (·.2)).bind (rTagged known j ⟨ds.set i d, tg⟩) := by
 have hnone : ∀ {g : D → Option (S × Bs)}, (∀ d, g d = none) → (f2 l).bind g = none := fun h => by cases f2 l with
  | none => rfl
  | some d => exact h d
 cases sc with
 | none => exact (hnone fun d => rfl).symm
 | some bs =>
  simp only [Option.bind_some] at e1 e2 e3 ⊢
  rw [rTagged]
  dsimp only
  cases a1 : zaO bs with
  | none => exact (hnone fun d => rfl).symm
  | some y1 =>
   rw [a1] at e1 e2 e3
   simp only [Option.map_some, Option.bind_some] at e1 e2 e3 ⊢
   have := e1 y1 rfl
   subst this
   cases a2 : zaO y1.2 with
   | none => exact (hnone fun d => rfl).symm
   | some y2 =>
    rw [a2] at e2 e3
    simp only [Option.map_some, Option.bind_some] at e2 e3 ⊢
    have := e2 y2 rfl
    subst this
    cases a3 : zbr (y2.1 : Int) y2.2 with
    | none => exact (hnone fun d => rfl).symm
    | some y3 =>
     simp only [Option.map_some, Option.bind_some]
     have := e3 y3 a3
     subst this
     rw [hk y1.1, if_pos h1]
theorem tot_start {n : Nat} (hx : E.flex = true) (ha : anyTag fs = true) (e1 : ∀ y, st.bind zaO = some y → n = y.1) : st.bind (tlK E fs s) = ((st.bind zaO).map (·.2)).bind (rTagged (zba E.flex E.ver fs 0) n ⟨s.ds, []⟩) := by
 cases st with
 | none => rfl
 | some bs =>
  simp only [Option.bind_some] at e1 ⊢
  unfold tlK tlP semTagged
  rw [if_pos hx, if_pos ha]
  cases a1 : zaO bs with
  | none => rfl
  | some y1 =>
   have := e1 y1 a1
   subst this
   rfl
theorem kn0_of {f : Fld} : ∀ {fs : List Fld} {i0 i : Nat} {flex : Bool} {ver : Int}, fs[i]? = some f → f.tag = 0 → (∀ (j : Nat) (g : Fld), fs[j]? = some g → j ≠ i → g.tag < 0) → Kn0 (zba flex ver fs i0) (i0 + i) fun bs => (decF flex ver f bs).map (·.1)
 | [], _, _, _, _, h, _, _ => by simp at h
 | g :: r, i0, 0, flex, ver, h, ht, hn => by
  simp at h; subst h
  have hr : ∀ (r : List Fld) (i0 k : Nat), (∀ (j : Nat) (g : Fld), r[j]? = some g → g.tag < 0) → zba flex ver r i0 k = none := by
   intro r
   induction r with
   | nil => intro i0 k _; unfold zba; rfl
   | cons x r ih =>
    intro i0 k h
    unfold zba
    rw [if_neg (by have := h 0 x rfl; omega)]
    exact ih (i0 + 1) k fun j g hg => h (j + 1) g (by simpa using hg)
  intro k
  unfold zba
  rw [ht]
  by_cases hk : k = 0
  ·rw [if_pos (by omega), if_pos hk]; rfl
  ·rw [if_neg (by omega), if_neg hk]
   exact hr r (i0 + 1) k fun j g hg => hn (j + 1) g (by simpa using hg) (by omega)
 | g :: r, i0, i + 1, flex, ver, h, ht, hn => by
  intro k
  unfold zba
  rw [if_neg (by have := hn 0 g rfl (by omega); omega)]
  have := kn0_of (fs := r) (i0 := i0 + 1) (i := i) (flex := flex) (ver := ver) (by simpa using h) ht (fun j g hg hj => hn (j + 1) g (by simpa using hg) (by omega)) k
  rw [this, show i0 + 1 + i = i0 + (i + 1) by omega]
def kn0B (fs : List Fld) (i : Nat) : Bool := (match fs[i]? with | some f => decide (f.tag = 0) | none => false) && (List.range fs.length).all fun j => decide (j = i) || (match fs[j]? with | some g => decide (g.tag < 0) | none => true)
theorem kn0B_out {fs : List Fld} {i : Nat} {f : Fld} (hf : fs[i]? = some f) (h : kn0B fs i = true) (flex : Bool) (ver : Int) : Kn0 (zba flex ver fs 0) i fun bs => (decF flex ver f bs).map (·.1) := by
 unfold kn0B at h
 rw [hf] at h
 simp only [Bool.and_eq_true, decide_eq_true_eq, List.all_eq_true, Bool.or_eq_true, List.mem_range] at h
 have := kn0_of (i0 := 0) (flex := flex) (ver := ver) hf h.1 fun j g hg hj => by
  have hlt := (List.getElem?_eq_some_iff.1 hg).1
  rcases h.2 j hlt with e | e
  ·exact absurd e hj
  ·rw [hg] at e; exact of_decide_eq_true e
 rwa [Nat.zero_add] at this
theorem rk_off {I mm : Nat} {a1 : Act} (hx : E.flex = false) (hfl : E.fl = true) (hj : E.jk = none) (hok : ∀ t, tagOK t) (hk : zan (RS mm) a a1) (hB : RB E a w O R st) (hP : RP (knE E) sS k0 fs a w O R B p s) (hI : fs.length ≤ I) : RdQ E mm k0 fs I (tlK E fs) a w O R B p st s .normal a1 w := by
 have hki := KI.start hB hP
 have hf := hki.fin hfl hok hj
 refine ⟨hk, Chg.refl _ _, Rest.of rfl, st, ⟨s.ds, []⟩, hB.rs, hf.2, ?_, Nat.le_refl _, fun j hj => rfl⟩
 unfold Stp
 cases st with
 | none => rfl
 | some bs =>
  rw [Option.bind_some]
  unfold tlK tlP
  rw [hx]
  exact ⟨rfl, rfl⟩
end
def InT (E : REnv) (m sS k0 : Nat) (fs : List Fld) (I : Nat) (sem : Sem) (T0 c : Code) : Prop :=
 ∀ (a : Act) (w : World) (O : Nat → Prop) (R B p : Nat) (st : Option Bs) (s : S) (Q : Exit → Act → World → Prop), RB E a w O R st → RP E sS k0 fs a w O R B p s →
  (∀ a' w', RdQ E m k0 fs I sem a w O R B p st s .normal a' w' → T0.wp Tryz.prog Q a' w') → (∀ a' w', RdQ E m k0 fs I sem a w O R B p st s .ret a' w' → Q .ret a' w') → c.wp Tryz.prog Q a w
theorem zan.put0 {S : Nat → Prop} {a b : Act} (h : zan S a b) (v : Value) : zan S a (b.put none v) := h
theorem wp_gen {P : Program} {c : Code} {Q : Exit → Act → World → Prop} {a : Act} {w : World} (h : ∀ a', a' = a → c.wp P Q a' w) : c.wp P Q a w := h a rfl
section
variable {y0 y1 y2 y3 y4 y5 y6 y7 : TypeId} {q0 q1 q2 q3 q4 q5 q6 q7 : String} {e0 e1 e2 e3 e4 e5 e6 e7 e16 : Array Edge} {r0 r1 r2 r3 r4 r5 : Nat}
variable {E : REnv} {m sS k0 i I x y t t1 t2 t3 t4 t5 T ty idx : Nat} {us : Array TypeId} {f : Fld} {fs : List Fld} {pre : S → Prop} {sem : Bs → Option (D × Bs)} {semS : Sem} {fn : FuncId} {a1 a2 a3 a4 a5 : Int} {of : K} {sub : List Fld} {c T0 : Code}
theorem it_store (h : RvC E m x f sem c) (hf : fs[i]? = some f) (hF : (decide (fsz E.fl f = 1) && zbc Tryz.prog T idx (k0 + foff E.fl fs i) 1 && sizeB Tryz.prog ty 1) = true) (hsl : rsl E m [t1, t2, t3, t4] [sS, E.rr] = true) (hx : [t1, t2, t3, t4].all (fun t => decide (t ≠ x)) = true) :
  InT E m sS k0 fs (i + 1) (zbm i sem) T0 (.seq c (.seq (.region r0 #[⟨some t1, .move (.tmp sS), y0, q0, e0, none⟩, ⟨some t2, .move (.tmp x), y1, q1, e1, none⟩, ⟨some t3, .nilCheck (.tmp t1), y2, q2, e2, none⟩, ⟨some t4, .fieldAddr T (.tmp t3) idx, y3, q3, e3, none⟩, ⟨none, .store ty (.tmp t4) (.tmp t2), y4, q4, e4, none⟩] false) T0)) := by
 intro a w O R B p st s Q hB hP hn hr
 refine wp_seq (wp_mono (h a w O R st hB) ?_)
 intro e a1 w1 hq
 cases e <;> try exact hq.elim
 refine wp_seq (wp_mono (wp_put hB hP hq hf hF hsl hx) ?_)
 intro e a2 w2 hq2
 cases e <;> try exact hq2.elim
 ·exact hn a2 w2 hq2
 ·exact hr a2 w2 hq2
theorem it_pre {z : Value} (h : InT E m sS k0 fs I semS T0 c) (hsl : rsl E m [t] [sS] = true) : InT E m sS k0 fs I semS T0 (.seq (.region r0 #[⟨some t, .assign (.const z), y0, q0, e0, none⟩] false) c) := by
 obtain ⟨hm, hw, hr, hnd⟩ := zaR hsl
 simp only [List.mem_cons, List.not_mem_nil, or_false, forall_eq] at hw hr
 intro a w O R B p st s Q hB hP hn hrt
 refine qsr fun K hK => ?_
 refine zah ?_
 refine zaa (hK _ _ ?_)
 have hk : zan (RS m) a (a.put (some t) (a.eval (.const z))) := (zan.refl _ _).put hw.1 _
 refine h _ w O R B p st s Q (hB.next hm hk (Chg.refl (fun _ => False) _) (fun _ h => h.elim) hB.rs (Nat.le_refl _)) ⟨(hk.slot _ ⟨hr.1, hr.2⟩).trans hP.pt, hP.at_, hP.oB, hP.ne⟩ (fun a' w' hq => hn a' w' ?_) (fun a' w' hq => hrt a' w' hq)
 obtain ⟨h1, h2⟩ := hq
 exact ⟨hk.trans h1, h2⟩
theorem it_uuid (hf : fs[i]? = some (.mk .uuid a1 a2 a3 a4 a5 of sub)) (hF : (zbc Tryz.prog T idx (k0 + foff E.fl fs i) 16 && sizeB Tryz.prog ty 16) = true) (hsl0 : rsl E m [t5, x] [E.rr] = true) (hux : decide (t5 ≠ x) = true) (hsl : rsl E m [t1, t2, t3, t4] [sS, E.rr] = true) (hx : [t1, t2, t3, t4].all (fun t => decide (t ≠ x)) = true) :
  InT E m sS k0 fs (i + 1) (zbm i (decF E.flex E.ver (.mk .uuid a1 a2 a3 a4 a5 of sub))) T0 (.seq (.region r1 #[⟨some t5, .call { callee := .value (.func 94), args := #[.tmp E.rr], argTypes := us }, y0, q0, e0, none⟩, ⟨some x, .alloc 106, y1, q1, e1, none⟩, ⟨none, .store 106 (.tmp x) (.tmp t5), y2, q2, e2, none⟩] false)
   (.seq (.region r0 #[⟨some t1, .move (.tmp sS), y3, q3, e3, none⟩, ⟨some t2, .load 106 (.tmp x), y4, q4, e4, none⟩, ⟨some t3, .nilCheck (.tmp t1), y5, q5, e5, none⟩, ⟨some t4, .fieldAddr T (.tmp t3) idx, y6, q6, e6, none⟩, ⟨none, .store ty (.tmp t4) (.tmp t2), y7, q7, e7, none⟩] false) T0)) := by
 simp only [Bool.and_eq_true] at hF
 obtain ⟨f2, f3⟩ := hF
 obtain ⟨hm0, hw0, hr0, hnd0⟩ := zaR hsl0
 simp only [qne, List.nodup_cons, not_or, List.nodup_nil, and_true, not_false_eq_true] at hw0 hnd0 hr0
 obtain ⟨hm, hw, hr, hnd⟩ := zaR hsl
 simp only [qne, List.nodup_cons, not_or, List.nodup_nil, and_true, not_false_eq_true, List.all_cons, List.all_nil, Bool.and_true, Bool.and_eq_true, decide_eq_true_eq] at hw hnd hr hx
 intro a w O R B p st s Q hB hP hn0 _
 have hNa := hB.ok.1
 refine qsr fun K hK => ?_
 refine wl_rd (fun args w => Tryz.call94 args w) Uuid_c (by simp only [List.map_toArray, List.map_cons, List.map_nil, zae, hB.rd]) hB.rs (fun h => h hB.oR) hB.new ?_
 intro v w0 hq0
 obtain ⟨l, ⟨rfl, hl16⟩, k2⟩ := hq0.val
 refine za9 (z := zaV (List.replicate 16 (.int .u8 0))) (fun w => Tryz.zeroValue106 w) fun w1a hc1a hb1a hs1a => ?_
 have h5x : t5 ≠ x := of_decide_eq_true hux
 refine za7 (b := w0.heap.size) (n := 16) (l' := l.map zaw) (by kernel_rfl) (by simp only [zae, zad, zag, hNa, hw0]) (by
  simp only [zae, zaf (Ne.symm h5x), zad, zag, hNa, hw0]; rfl) hb1a (by simpa using hl16) (by intro u hu; obtain ⟨z, _, rfl⟩ := List.mem_map.1 hu; rfl) (by simp [zaV, Value.cells]) fun w1 hbx hc1b => ?_
 refine zaa (hK _ _ ?_)
 clear hK K
 have hck : Chg (fun _ => False) w0 w1 := hc1a.trans hc1b fun n hn e => by omega
 have hR0 := hq0.rd.lt
 have hqchg : Chg (fun k => k = R) w w1 := hq0.chg.trans hck fun _ _ h => h.elim
 have hqrd := hq0.rd.stay (zbk.of hck fun _ _ _ h => h) (hck.block R hR0 (fun h => h))
 have q1 : zan (RS m) a ((a.put (some t5) (.agg (l.map zaw).toArray)).put (some x) (.pointer (some ⟨w0.heap.size, 0, none⟩))) := ((zan.refl _ _).put hw0.1.1 _).put hw0.2.1 _
 have q5 : get ((a.put (some t5) (.agg (l.map zaw).toArray)).put (some x) (.pointer (some ⟨w0.heap.size, 0, none⟩))) x = .pointer (some ⟨w0.heap.size, 0, none⟩) := zad (by rw [zag, hNa]; exact hw0.2.2.1)
 change Code.wp _ _ _ ((a.put (some t5) (.agg (l.map zaw).toArray)).put (some x) (.pointer (some ⟨w0.heap.size, 0, none⟩))) w1
 generalize ((a.put (some t5) (.agg (l.map zaw).toArray)).put (some x) (.pointer (some ⟨w0.heap.size, 0, none⟩))) = ac at q1 q5 ⊢
 have hN : ac.tmps.size = E.N := q1.size.trans hNa
 have hs : get ac sS = .pointer (some ⟨B, p, none⟩) := (q1.slot _ hr.1).trans hP.pt
 obtain ⟨cs, Tb, c1, c2⟩ := hP.at_
 have hfs : fsz E.fl (.mk .uuid a1 a2 a3 a4 a5 of sub) = 16 := rfl
 have hfo : foff E.fl fs i + 16 ≤ lsz E.fl fs := by
  obtain ⟨_, v1, v2, g3, g4, g5⟩ := c2
  obtain ⟨_, _, _, h6⟩ := g4.get hf
  have := g4.len.1
  omega
 have hsz : lsz E.fl fs ≤ ssz E.fl fs := by unfold ssz; omega
 have hb1 : Blk w1 B cs Tb := c1.chg hqchg (fun e => hP.ne e.symm)
 have e : (decF E.flex E.ver (.mk .uuid a1 a2 a3 a4 a5 of sub)) = fun bs => (take? 16 bs).map fun y => (.uuid y.1, y.2) := by
  funext bs; unfold decF; rfl
 rw [e] at hn0
 have hl : ∀ st : Option Bs, st.bind (fun bs => (take? 16 bs).map fun y => (D.uuid y.1, y.2)) = (st.bind (take? 16)).map fun y => (D.uuid y.1, y.2) := fun st => by cases st <;> rfl
 have he : (st.bind (fun bs => (take? 16 bs).map fun y => (D.uuid y.1, y.2))).map (·.2) = (st.bind (take? 16)).map (·.2) := by rw [hl, Option.map_map]; rfl
 have hvc : (Value.agg (l.map zaw).toArray).cells.toList = l.map zaw := by simp [Value.cells]
 refine qsr fun K hK => ?_
 refine zam ?_
 rw [zae, hs]
 refine zaT (b := w0.heap.size) (o := 0) (n := 16) (by kernel_rfl) (by kernel_rfl) (by rw [zae, zaf hx.1, q5]) hbx (by simp [hl16]) ?_
 have e16 : ((l.map zaw).drop 0).take 16 = l.map zaw := by rw [List.drop_zero]; exact List.take_of_length_le (by simp [hl16])
 rw [e16]
 refine zaI (p := ⟨B, p, none⟩) (by simp only [zae, zad, zaf, zak, ne_eq, zag, hN, hnd, hw, not_false_eq_true]) ?_
 refine zaC (b := B) (o := p) f2 (by simp only [zae, zad, zaf, zak, ne_eq, zag, hN, hnd, hw, not_false_eq_true]) ?_
 refine zaY (b := B) (o := p + (k0 + foff E.fl fs i)) (n := 16) (v := .agg (l.map zaw).toArray) f3 (by simp only [zae, zad, zaf, zak, ne_eq, zag, hN, hnd, hw, not_false_eq_true]) (by simp only [zae, zad, zaf, zak, ne_eq, zag, hN, hnd, hw, not_false_eq_true]) hb1 (by simp [Value.cells, hl16])
  (by intro u hu; rw [hvc] at hu; obtain ⟨z, _, rfl⟩ := List.mem_map.1 hu; rfl) (by have := c1.lt; omega) fun w2 hb2 hc2 => ?_
 rw [hvc] at hb2
 refine zaa (hK _ _ (hn0 _ _ ?_))
 rw [show p + (k0 + foff E.fl fs i) = p + k0 + foff E.fl fs i by omega] at hb2
 exact set_field hP hB hf ((((q1.put hw.1.1 _).put hw.2.1.1 _).put hw.2.2.1.1 _).put hw.2.2.2.1 _) hqchg (by rw [he]; exact hqrd) (by rw [he]; exact (less_take 16).st st) (d := .uuid l) (vs := l.map zaw) (by unfold RepF; exact ⟨hl16, rfl⟩) (by rw [hfs]; simpa using hl16) (fun z hz => by
  rw [hl] at hz
  cases hb : st.bind (take? 16) with
  | none => rw [hb] at hz; cases hz
  | some u =>
   rw [hb] at hz
   simp only [Option.map_some, Option.some.injEq] at hz
   rw [← hz, k2 u hb]) c1 hb2 hc2
end
end Go.Proofs.YtnjjfpgpookjlaaGreatDoor
