import Derived.Test.YtnjjfpgpookjlaaGreatDoorZD
/-
What the proofs of the laws rest on, part ZE.
-/
namespace Go.Proofs.YtnjjfpgpookjlaaGreatDoor
set_option linter.all false
set_option maxRecDepth 10000
set_option maxHeartbeats 4000000
open Go.RowKit
abbrev knE (E : REnv) : REnv := ⟨E.N, E.ver, E.flex, E.fl, E.rr, some (.map none)⟩
def tlK (E : REnv) (fs : List Fld) : Sem := fun s bs => tlP E fs ⟨s.ds, []⟩ bs
def RkC (E : REnv) (m sS k0 : Nat) (fs : List Fld) (I : Nat) (pre : S → Prop) (sem : Sem) (c : Code) : Prop :=
 ∀ (a : Act) (w : World) (O : Nat → Prop) (R B p : Nat) (st : Option Bs) (s : S), RB E a w O R st → RP (knE E) sS k0 fs a w O R B p s → pre s → c.wp Tryz.prog (RdQ E m k0 fs I sem a w O R B p st s) a w
def RkT (E : REnv) (m sS k0 : Nat) (fs : List Fld) (pre : S → Prop) (sem : Sem) (c : Code) : Prop :=
 ∀ (a : Act) (w : World) (O : Nat → Prop) (R B p : Nat) (st : Option Bs) (s : S), RB E a w O R st → RP (knE E) sS k0 fs a w O R B p s → pre s → c.wp Tryz.prog (RtQ E m k0 fs sem w O R B p st s) a w
theorem AtE.ofK {E : REnv} {w : World} {O : Nat → Prop} {fs : List Fld} {ds : List D} {vs : List Value} (hfl : E.fl = true) (h : repSB E.fl fs ds vs = true) :
  ∃ v1 v2, vs = v1 ++ v2 ∧ RepL w (fun g => ¬ O g) E.fl fs ds v1 ∧ TgX (knE E) w O [] v2 := by
 unfold repSB at h
 simp only [Bool.and_eq_true] at h
 obtain ⟨h1, h2⟩ := h
 refine ⟨_, _, (List.take_append_drop (lsz E.fl fs) vs).symm, repLB_out h1, ?_⟩
 rw [if_pos hfl] at h2
 split at h2
 ·rename_i hd; rw [hd]; exact ⟨rfl, hfl⟩
 ·cases h2
section
variable {E : REnv} {m sS k0 I i : Nat} {fs : List Fld} {pre : S → Prop} {sem tl : Sem} {c c1 c2 : Code} {f : Fld}
theorem rdx_mono {pre' : S → Prop} {sem' : Sem} (h : RkC E m sS k0 fs I pre' sem' c) (hp : ∀ s, pre s → pre' s) (he : ∀ s bs, pre s → s.ds.length = fs.length → sem s bs = sem' s bs) : RkC E m sS k0 fs I pre sem c := by
 intro a w O R B p st s hB hP hpre
 have hlen := hP.at_.len
 refine wp_mono (h a w O R B p st s hB hP (hp s hpre)) ?_
 intro e a1 w1 hq
 have hsem : st.bind (sem s) = st.bind (sem' s) := by
  cases st with
  | none => rfl
  | some bs => exact he s bs hpre hlen
 cases e <;> try exact hq.elim
 ·obtain ⟨hk, hc, hr, st1, s1, hs1, ha1, hstp, hl, hI'⟩ := hq
  exact ⟨hk, hc, hr, st1, s1, hs1, ha1, by unfold Stp at hstp ⊢; rw [hsem]; exact hstp, hl, hI'⟩
 ·obtain ⟨q1, q2, q3, q4⟩ := hq
  exact ⟨q1, q2, by rw [hsem]; exact q3, q4⟩
theorem rtx_mono {pre' : S → Prop} {sem' : Sem} (h : RkT E m sS k0 fs pre' sem' c) (hp : ∀ s, pre s → pre' s) (he : ∀ s bs, pre s → s.ds.length = fs.length → sem s bs = sem' s bs) : RkT E m sS k0 fs pre sem c := by
 intro a w O R B p st s hB hP hpre
 have hlen := hP.at_.len
 refine wp_mono (h a w O R B p st s hB hP (hp s hpre)) ?_
 intro e a1 w1 hq
 have hsem : st.bind (sem s) = st.bind (sem' s) := by
  cases st with
  | none => rfl
  | some bs => exact he s bs hpre hlen
 cases e <;> try exact hq.elim
 unfold RtQ at hq ⊢
 rw [hsem]; exact hq
theorem rdx_next (hf : fs[i]? = some f) (hsl : rsl E m [] [sS] = true) (hI : decide (i + 1 ≤ I) = true) (h1 : RdC ⟨E.N, E.ver, E.flex, E.fl, E.rr, some (.map none)⟩ m sS k0 fs (i + 1) (zbe fs i) (zbr ⟨E.N, E.ver, E.flex, E.fl, E.rr, some (.map none)⟩ f i) c1) (h2 : RkC E m sS k0 fs I (zbe fs (i + 1)) (semL E fs (i + 1) tl) c2) :
  RkC E m sS k0 fs I (zbe fs i) (semL E fs i tl) (.seq c1 c2) := by
 replace h1 : RdC (knE E) m sS k0 fs (i + 1) (zbe fs i) (zbr E f i) c1 := h1
 obtain ⟨hm, hw, hr, hnd⟩ := zaN hsl
 simp only [List.mem_cons, List.not_mem_nil, or_false, forall_eq] at hr
 have hI := of_decide_eq_true hI
 intro a w O R B p st s hB hP hpre
 have hlen := hP.at_.len
 have hsem : st.bind (semL E fs i tl s) = (st.bind (zbr E f i s)).bind fun x => semL E fs (i + 1) tl x.1 x.2 := by
  cases st with
  | none => rfl
  | some bs => exact semL_step hf hpre hlen
 refine wp_seq (wp_mono (h1 a w O R B p st s (hB.st _) hP hpre) ?_)
 intro e a1 w1 hq
 cases e <;> try exact hq.elim
 ·obtain ⟨hk, hc, hrs, st1, s1, hs1, ha1, hstp, hl, hI1⟩ := hq
  have hB1 := hB.next hm hk hc (fun k hk => by rcases hk with rfl | rfl; exact hB.oR; exact hP.oB) hs1 hl
  have hP1 : RP (knE E) sS k0 fs a1 w1 O R B p s1 := ⟨(hk.slot _ hr).trans hP.pt, ha1, hP.oB, hP.ne⟩
  refine wp_mono (h2 a1 w1 O R B p st1 s1 hB1 hP1 (hpre.on (by omega) hI1)) ?_
  intro e a2 w2 hq
  cases e <;> try exact hq.elim
  ·obtain ⟨hk2, hc2, hr2, st2, s2, hs2, ha2, hstp2, hl2, hI2'⟩ := hq
   refine ⟨hk.trans hk2, hc.trans hc2 fun _ _ h => h, hrs.trans hr2, st2, s2, hs2, ha2, ?_, Nat.le_trans hl2 hl, fun j hj => (hI2' j (by omega)).trans (hI1 j (by omega))⟩
   unfold Stp at hstp hstp2 ⊢
   rw [hsem]
   cases h : st.bind (zbr E f i s) with
   | none =>
    rw [h] at hstp
    subst hstp
    exact hstp2
   | some y =>
    rw [h] at hstp
    obtain ⟨rfl, rfl⟩ := hstp
    exact hstp2
  ·obtain ⟨q1, q2, q3, q4⟩ := hq
   refine ⟨q1, q2, ?_, (hc.mono fun k _ hk => by rcases hk with rfl | rfl; exact hB.oR; exact hP.oB : Chg O w w1).trans q4 fun _ _ h => h⟩
   rw [hsem]
   unfold Stp at hstp
   cases h : st.bind (zbr E f i s) with
   | none => rfl
   | some y =>
    rw [h] at hstp
    obtain ⟨rfl, rfl⟩ := hstp
    exact q3
 ·obtain ⟨q1, q2, q3, q4⟩ := hq
  refine ⟨q1, q2, ?_, q4⟩
  rw [hsem, q3]; rfl
theorem rdx_tagged (hf : fs[i]? = some f) (ht : decide (0 ≤ f.tag) = true) (h : RkC E m sS k0 fs I (zbe fs (i + 1)) (semL E fs (i + 1) tl) c) : RkC E m sS k0 fs I (zbe fs i) (semL E fs i tl) c := by
 refine rdx_mono h (fun _ h => h.up (by omega)) fun s bs hfr hlen => ?_
 rw [semL_step hf hfr hlen]
 unfold zbr
 have := of_decide_eq_true ht
 rw [if_neg (by simp; omega)]
 rfl
theorem rdx_end (hl : decide (fs.length ≤ i) = true) (h : RkC E m sS k0 fs I (fun _ => True) tl c) : RkC E m sS k0 fs I (zbe fs i) (semL E fs i tl) c :=
 rdx_mono h (fun _ _ => trivial) fun s bs _ hlen => semL_end (of_decide_eq_true hl) hlen
theorem rtx_next (hf : fs[i]? = some f) (hsl : rsl E m [] [sS] = true) (h1 : RdC ⟨E.N, E.ver, E.flex, E.fl, E.rr, some (.map none)⟩ m sS k0 fs (i + 1) (zbe fs i) (zbr ⟨E.N, E.ver, E.flex, E.fl, E.rr, some (.map none)⟩ f i) c1) (h2 : RkT E m sS k0 fs (zbe fs (i + 1)) (semL E fs (i + 1) tl) c2) :
  RkT E m sS k0 fs (zbe fs i) (semL E fs i tl) (.seq c1 c2) := by
 replace h1 : RdC (knE E) m sS k0 fs (i + 1) (zbe fs i) (zbr E f i) c1 := h1
 obtain ⟨hm, hw, hr, hnd⟩ := zaN hsl
 simp only [List.mem_cons, List.not_mem_nil, or_false, forall_eq] at hr
 intro a w O R B p st s hB hP hpre
 have hlen := hP.at_.len
 have hsem : st.bind (semL E fs i tl s) = (st.bind (zbr E f i s)).bind fun x => semL E fs (i + 1) tl x.1 x.2 := by
  cases st with
  | none => rfl
  | some bs => exact semL_step hf hpre hlen
 refine wp_seq (wp_mono (h1 a w O R B p st s (hB.st _) hP hpre) ?_)
 intro e a1 w1 hq
 cases e <;> try exact hq.elim
 ·obtain ⟨hk, hc, hrs, st1, s1, hs1, ha1, hstp, hl, hI1⟩ := hq
  have hcO : Chg O w w1 := hc.mono fun k _ hk => by rcases hk with rfl | rfl; exact hB.oR; exact hP.oB
  have hB1 := hB.next hm hk hc (fun k hk => by rcases hk with rfl | rfl; exact hB.oR; exact hP.oB) hs1 hl
  have hP1 : RP (knE E) sS k0 fs a1 w1 O R B p s1 := ⟨(hk.slot _ hr).trans hP.pt, ha1, hP.oB, hP.ne⟩
  refine wp_mono (h2 a1 w1 O R B p st1 s1 hB1 hP1 (hpre.on (by omega) hI1)) ?_
  intro e a2 w2 hq
  cases e <;> try exact hq.elim
  obtain ⟨q1, q2⟩ := hq
  unfold Stp at hstp
  have hst : st1.bind (semL E fs (i + 1) tl s1) = st.bind (semL E fs i tl s) := by
   rw [hsem]
   cases hh : st.bind (zbr E f i s) with
   | none => rw [hh] at hstp; rw [hstp]; rfl
   | some y => rw [hh] at hstp; rw [hstp.1, hstp.2]; rfl
  rw [hst] at q2
  refine ⟨q1, ?_⟩
  rcases q2 with ⟨x1, x2, x3⟩ | ⟨s2, r, x1, x2, x3, x4, x5⟩
  ·exact .inl ⟨x1, x2, hcO.trans x3 fun _ _ h => h⟩
  ·exact .inr ⟨s2, r, x1, x2, hc.trans x3 fun _ _ h => h, x4, hrs.trans x5⟩
 ·obtain ⟨q1, q2, q3, q4⟩ := hq
  refine ⟨q1, .inl ⟨?_, q2, q4⟩⟩
  rw [hsem, q3]; rfl
theorem rtx_tagged (hf : fs[i]? = some f) (ht : decide (0 ≤ f.tag) = true) (h : RkT E m sS k0 fs (zbe fs (i + 1)) (semL E fs (i + 1) tl) c) : RkT E m sS k0 fs (zbe fs i) (semL E fs i tl) c := by
 refine rtx_mono h (fun _ h => h.up (by omega)) fun s bs hfr hlen => ?_
 rw [semL_step hf hfr hlen]
 unfold zbr
 have := of_decide_eq_true ht
 rw [if_neg (by simp; omega)]
 rfl
theorem rtx_end (hl : decide (fs.length ≤ i) = true) (h : RkT E m sS k0 fs (fun _ => True) tl c) : RkT E m sS k0 fs (zbe fs i) (semL E fs i tl) c :=
 rtx_mono h (fun _ _ => trivial) fun s bs _ hlen => semL_end (of_decide_eq_true hl) hlen
theorem rtx_tl (hsl : rsl E m [] [sS] = true) (h1 : RkC E m sS k0 fs I (fun _ => True) tl c1) (h2 : RtC E m sS k0 fs (fun _ => True) (fun s bs => some (s, bs)) c2) : RkT E m sS k0 fs (fun _ => True) tl (.seq c1 c2) := by
 obtain ⟨hm, hw, hr, hnd⟩ := zaN hsl
 simp only [List.mem_cons, List.not_mem_nil, or_false, forall_eq] at hr
 intro a w O R B p st s hB hP hpre
 refine wp_seq (wp_mono (h1 a w O R B p st s hB hP trivial) ?_)
 intro e a1 w1 hq
 cases e <;> try exact hq.elim
 ·obtain ⟨hk, hc, hrs, st1, s1, hs1, ha1, hstp, hl, hI1⟩ := hq
  have hcO : Chg O w w1 := hc.mono fun k _ hk => by rcases hk with rfl | rfl; exact hB.oR; exact hP.oB
  have hB1 := hB.next hm hk hc (fun k hk => by rcases hk with rfl | rfl; exact hB.oR; exact hP.oB) hs1 hl
  have hP1 : RP E sS k0 fs a1 w1 O R B p s1 := ⟨(hk.slot _ hr).trans hP.pt, ha1, hP.oB, hP.ne⟩
  refine wp_mono (h2 a1 w1 O R B p st1 s1 hB1 hP1 trivial) ?_
  intro e a2 w2 hq
  cases e <;> try exact hq.elim
  obtain ⟨q1, q2⟩ := hq
  unfold Stp at hstp
  have hst : (st1.bind fun bs => some (s1, bs)) = st.bind (tl s) := by
   cases hh : st.bind (tl s) with
   | none => rw [hh] at hstp; rw [hstp]; rfl
   | some y => rw [hh] at hstp; rw [hstp.1, hstp.2]; rfl
  rw [hst] at q2
  refine ⟨q1, ?_⟩
  rcases q2 with ⟨x1, x2, x3⟩ | ⟨s2, r, x1, x2, x3, x4, x5⟩
  ·exact .inl ⟨x1, x2, hcO.trans x3 fun _ _ h => h⟩
  ·exact .inr ⟨s2, r, x1, x2, hc.trans x3 fun _ _ h => h, x4, hrs.trans x5⟩
 ·obtain ⟨q1, q2, q3, q4⟩ := hq
  exact ⟨q1, .inl ⟨q3, q2, q4⟩⟩
end
theorem Span_cL (l : Int) {w : World} {G : Nat → Prop} {R : Nat} {st : Option Bs} (hS : RdS w G R st) (hR : ¬ G R) (hf : ∀ k, w.heap.size ≤ k → G k) :
  zaF Tryz.prog 82 #[.pointer (some ⟨R, 0, none⟩), .int .i64 l] w (Reads w G R st (rSpan l) fun w w' G x v => outB w w' G x v ∧ x.length ≤ stLen st) := by
 obtain ⟨oa, cap, hb, hcap, hat⟩ := hS.blk
 have l0 := hb.ld (i := 0) rfl
 refine zaq Tryz.func82 rfl rfl Tryz.ntmps82 (by simp) ?_
 intro a hN hD ha
 have h0 : get a 0 = .pointer (some ⟨R, 0, none⟩) := ha 0 _ rfl
 have h1 : get a 1 = .int .i64 l := ha 1 _ rfl
 refine qsr fun K hK => ?_; (repeat ((with_reducible refine zaJ ?_ ?_ ?_); (· simp [qef, hN] <;> omega); (· kernel_rfl); try simp only [qec, hN, seval])); refine zaa (hK _ _ ?_); clear hK K
 have fail : (((st.getD []).length : Int) < l ∨ l < 0) → ∀ bs, st = some bs → rSpan l bs = none := by
  rintro h bs rfl
  change (bs.length : Int) < l ∨ _ at h
  unfold rSpan take?
  split
  ·rw [if_neg (by omega)]
  ·rfl
 by_cases hlt : ((st.getD []).length : Int) < l ∨ l < 0
 ·refine qsk fun K hK => ?_; refine qsk fun K0 hK0 => ?_
  by_cases g1 : ((st.getD []).length : Int) < l
  ·have d1 : decide (((st.getD []).length : Int) < l) = true := decide_eq_true g1
   refine zax ?_; (repeat (first | ((with_reducible refine zaJ ?_ ?_ ?_); (· simp [qef, hN, seval, h0, h1, l0, fo, d1] <;> omega); (· kernel_rfl); try simp only [qec, hN, seval, h0, h1, l0, fo, d1]) | ((with_reducible apply zak); (· exact rfl); (· exact rfl); (· simp [qec, hN, seval, h0, h1, l0, fo, d1]; done); try simp only [qec, hN, seval, h0, h1, l0, fo, d1]) | ((with_reducible apply zas); (· exact rfl); (· exact rfl); (· simp [qec, hN, seval, h0, h1, l0, fo, d1]; done); try simp only [qec, hN, seval, h0, h1, l0, fo, d1]) | ((with_reducible apply zat); (· exact rfl); (· exact rfl); (· simp [qec, hN, seval, h0, h1, l0, fo, d1]; done); try simp only [qec, hN, seval, h0, h1, l0, fo, d1]))); refine zaa ?_; refine hK0 _ _ ?_; try clear hK0 K0
   refine wp_cond_true (by simp only [qec, hN, seval]) ?_
   refine rd_fail (by simp only [zag]; exact hN) (by simp only [qec, hN, seval, h0]) hb (by kernel_rfl) fun a' w' k1 k2 k3 k4 => ⟨by rw [k1]; simp only [zab, hD], Reads.fail [] k4 k3 (fail hlt) ⟨⟨none, 0, k2, Nat.le_refl _, .inl rfl⟩, Nat.zero_le _⟩⟩
  ·have d1 : decide (((st.getD []).length : Int) < l) = false := decide_eq_false g1
   have d2 : decide (l < 0) = true := decide_eq_true (by omega)
   refine zax ?_; (repeat (first | ((with_reducible refine zaJ ?_ ?_ ?_); (· simp [qef, hN, seval, h0, h1, l0, fo, d1, d2] <;> omega); (· kernel_rfl); try simp only [qec, hN, seval, h0, h1, l0, fo, d1, d2]) | ((with_reducible apply zak); (· exact rfl); (· exact rfl); (· simp [qec, hN, seval, h0, h1, l0, fo, d1, d2]; done); try simp only [qec, hN, seval, h0, h1, l0, fo, d1, d2]) | ((with_reducible apply zas); (· exact rfl); (· exact rfl); (· simp [qec, hN, seval, h0, h1, l0, fo, d1, d2]; done); try simp only [qec, hN, seval, h0, h1, l0, fo, d1, d2]) | ((with_reducible apply zat); (· exact rfl); (· exact rfl); (· simp [qec, hN, seval, h0, h1, l0, fo, d1, d2]; done); try simp only [qec, hN, seval, h0, h1, l0, fo, d1, d2]))); refine zaa ?_; refine hK0 _ _ ?_; try clear hK0 K0
   refine wp_cond_true (by simp only [qec, hN, seval]) ?_
   refine rd_fail (by simp only [zag]; exact hN) (by simp only [qec, hN, seval, h0]) hb (by kernel_rfl) fun a' w' k1 k2 k3 k4 => ⟨by rw [k1]; simp only [zab, hD], Reads.fail [] k4 k3 (fail hlt) ⟨⟨none, 0, k2, Nat.le_refl _, .inl rfl⟩, Nat.zero_le _⟩⟩
 ·have d1 : decide (((st.getD []).length : Int) < l) = false := decide_eq_false (by omega)
  have d2 : decide (l < 0) = false := decide_eq_false (by omega)
  have d3 : decide (0 ≤ l) = true := decide_eq_true (by omega)
  have d4 : decide (l ≤ (cap : Int)) = true := decide_eq_true (by omega)
  have d5 : decide (l ≤ (l.toNat : Int)) = true := decide_eq_true (by omega)
  have d6 : decide (l ≤ ((st.getD []).length : Int)) = true := decide_eq_true (by omega)
  refine qsk fun K hK => ?_; refine qsr fun K0 hK0 => ?_; (repeat (first | ((with_reducible refine zaJ ?_ ?_ ?_); (· simp [qef, hN, seval, h0, h1, l0, fo, d1, d2] <;> omega); (· kernel_rfl); try simp only [qec, hN, seval, h0, h1, l0, fo, d1, d2]) | ((with_reducible apply zak); (· exact rfl); (· exact rfl); (· simp [qec, hN, seval, h0, h1, l0, fo, d1, d2]; done); try simp only [qec, hN, seval, h0, h1, l0, fo, d1, d2]) | ((with_reducible apply zas); (· exact rfl); (· exact rfl); (· simp [qec, hN, seval, h0, h1, l0, fo, d1, d2]; done); try simp only [qec, hN, seval, h0, h1, l0, fo, d1, d2]) | ((with_reducible apply zat); (· exact rfl); (· exact rfl); (· simp [qec, hN, seval, h0, h1, l0, fo, d1, d2]; done); try simp only [qec, hN, seval, h0, h1, l0, fo, d1, d2]))); refine zaa ?_; refine hK0 _ _ ?_; try clear hK0 K0
  refine wp_cond_false (by simp only [qec, hN, seval]) ?_
  refine wp_skip ?_
  refine hK _ _ ?_
  clear hK K
  refine qsr fun K hK => ?_; (repeat ((with_reducible refine zaJ ?_ ?_ ?_); (· simp [qef, hN, h0, h1, l0, fo, d3, d4, d5] <;> omega); (· kernel_rfl); try simp only [qec, hN, seval, h0, h1, l0, fo, d3, d4, d5])); refine zaa (hK _ _ ?_); clear hK K
  refine qsr fun K hK => ?_; (repeat ((with_reducible refine zaJ ?_ ?_ ?_); (· simp [qef, hN, h0, h1, l0, fo, d3, d6] <;> omega); (· kernel_rfl); try simp only [qec, hN, seval, h0, h1, l0, fo, d3, d6]))
  refine zbd (b := R) (o := 0) (n := 1) (v := .slice (if cap = l.toNat then oa else oa.map (·.add (l.toNat * 1))) ((st.getD []).length - l.toNat) (cap - l.toNat)) (by kernel_rfl) (by simp only [qec, hN, seval]) (by simp only [qec, hN, seval]; try rfl) hb rfl (by intro y hy; simp only [Value.cells, List.mem_singleton] at hy; subst hy; rfl) (by simp) fun w2 hb2 hc2 => ?_
  refine zaa (hK _ _ ?_); clear hK K
  refine qsr fun K hK => ?_; (repeat ((with_reducible refine zaJ ?_ ?_ ?_); (· simp [qef, hN, h0] <;> omega); (· kernel_rfl); try simp only [qec, hN, seval, h0])); refine zaa (hK _ _ ?_); clear hK K
  refine wp_ret ⟨by simp [zab, hD], ?_⟩; simp only [qea, hN, seval]
  have hx : ∀ g, G g → g < w.heap.size → ¬ g = R := fun g hg _ e => hR (e ▸ hg)
  cases st with
  | none =>
   have hl0 : l = 0 := by change ¬ (((0 : Nat) : Int) < l ∨ l < 0) at hlt; omega
   subst hl0
   refine ⟨hc2, ?_, [], ⟨⟨oa, 0, rfl, Nat.le_refl _, .inl rfl⟩, Nat.zero_le _⟩, fun y h => by cases h⟩
   have e : (none : Option Bs).bind (rSpan 0) = none := rfl
   rw [e]
   have ho : oa = none ∧ cap = 0 := by
    have := hS.blk
    have h3 : Blk w R [.slice none 0 0, .bool true] tR := hS
    have := (hb.inj h3).1
    simp at this
    exact ⟨this.1, this.2⟩
   obtain ⟨rfl, rfl⟩ := ho
   exact hb2
  | some bs =>
   change ¬ ((bs.length : Int) < l ∨ l < 0) at hlt
   change bs.length ≤ cap at hcap
   change zav w G oa bs at hat
   have hat3 := ((bytes_rest (i := l.toNat) hat hcap).chg hc2 hx)
   have hb3 : Blk w2 R [.slice (if cap = l.toNat then oa else oa.map (·.add (l.toNat * 1))) (bs.drop l.toNat).length (cap - l.toNat), .bool false] tR := by rw [List.length_drop]; exact hb2
   have e : (bs.take l.toNat).length = l.toNat := by rw [List.length_take]; omega
   refine Reads.done (x := bs.take l.toNat) (by unfold rSpan take?; rw [if_pos (by omega), if_pos (by omega)]) hc2 hb3 (by rw [List.length_drop]; omega) hat3 ⟨⟨oa, l.toNat, by rw [e], by rw [e]; exact Nat.le_refl _, (hat.take _).chg hc2 hx⟩, by rw [List.length_take]; exact Nat.min_le_right _ _⟩
section
variable {r0 r1 r2 r3 r4 r5 : Nat}
variable {E : REnv} {m mB sS k0 i I x y ys aS iS t1 t2 t3 t4 t5 t6 : Nat} {fs sub : List Fld} {c : Code} {us : Array TypeId} {fn : FuncId} {T ty : Nat}
end
section
variable {r0 r1 r2 r3 r4 r5 : Nat}
variable {E : REnv} {m sS B R T : Nat} {N : Nat} {us us2 : Array TypeId} {fs : List Fld} {c : Code} {dc : List Value} {ver : Int} {a : Act} {w w0 : World} {oa : Option Addr} {bs : Bs} {cap : Nat} {fnD : FuncId} {Q : Exit → Act → World → Prop} {r6 r7 r8 r9 : Nat}
end
section
variable {y0 y1 y2 y3 y4 : TypeId} {q0 q1 q2 q3 q4 : String} {e0 e1 e2 e3 e4 : Array Edge} {r0 r1 r2 r3 r4 r5 : Nat}
variable {E : REnv} {m aS iS x t1 t2 t3 t4 ty tyE : Nat} {of : K} {sub : List Fld} {c : Code}
theorem el_val1 {zc : List Value} (hty : (decide (of ≠ .struct) && decide (of ≠ .list) && decide (ksz of = 1) && sliceB Tryz.prog ty 1 && sizeB Tryz.prog tyE 1) = true) (h : RvC E m x (kfR of) (rK of E.flex) c)
  (s1 : rsl E m [t1, t2, t3, t4] [E.rr, aS, iS] = true) (s2 : [t1, t2, t3, t4].all (fun t => decide (t ≠ x)) = true) :
  ElC E m aS iS (eszR E of sub) (oneR E of sub) (repR E of sub) zc
   (.seq c (.region r0 #[⟨some t1, .move (.tmp aS), y0, q0, e0, none⟩, ⟨some t2, .move (.tmp iS), y1, q1, e1, none⟩, ⟨some t3, .move (.tmp x), y2, q2, e2, none⟩, ⟨some t4, .indexAddr ty (.tmp t1) (.tmp t2), y3, q3, e3, none⟩, ⟨none, .store tyE (.tmp t4) (.tmp t3), y4, q4, e4, none⟩] false)) := by
 have e : eszR E of sub = ksz of := by
  cases of <;> first | rfl | (exfalso; simp at hty)
 rw [e]
 exact el_val hty h s1 s2
end
section
variable {r0 r1 r2 r3 r4 r5 : Nat}
variable {E : REnv} {m sS k0 i I x y t1 t2 t3 t4 t5 T ty idx : Nat} {us : Array TypeId} {f : Fld} {fs : List Fld} {pre : S → Prop} {sem : Bs → Option (D × Bs)} {fn : FuncId} {a1 a2 a3 a4 a5 : Int} {of : K} {sub : List Fld} {c : Code}
end
set_option maxHeartbeats 4000000
theorem AtE.goK {E E' : REnv} {w w' : World} {O O' : Nat → Prop} {fs : List Fld} {s s' : S} {B o : Nat} {v : Value} (h : AtE E w O fs s B o) (hj : E.jk = some v) (hj' : E'.jk = some v) (hfl : E'.fl = E.fl) (hs : s'.ds = s.ds)
  (st : zbl w w' (fun g => ¬ O g) (fun g => ¬ O' g)) (hB : w'.heap[B]? = w.heap[B]?) : AtE E' w' O' fs s' B o := by
 obtain ⟨cs, T, h1, h2, v1, v2, h3, h4, h5⟩ := h
 unfold TgX at h5
 rw [hj] at h5
 refine ⟨cs, T, hB.trans h1, by rw [hfl]; exact h2, v1, v2, by rw [hfl]; exact h3, by rw [hs, hfl]; exact RepL.stay st h4, ?_⟩
 unfold TgX
 rw [hj', hfl]
 exact h5
structure KI (E : REnv) (k0 : Nat) (fs : List Fld) (w : World) (O : Nat → Prop) (R B p : Nat) (st : Option Bs) (w' : World) (m : Option Nat) (tg : za5) (sc : Option Bs) (ds : List D) : Prop where
 chg : Chg (fun k => k = R ∨ k = B) w w'
 rest : Rest w w' B (p + k0) (ssz E.fl fs)
 rd : RdS w' (fun g => ¬ (O g ∨ some g = m)) R sc
 at_ : AtE ⟨E.N, E.ver, E.flex, E.fl, E.rr, some (.map m)⟩ w' (fun g => O g ∨ some g = m) fs ⟨ds, []⟩ B (p + k0)
 tg : TagsAt w' (fun g => ¬ O g) m tg
 mr : ∀ r, m = some r → w.heap.size ≤ r ∧ r < w'.heap.size
 len : stLen sc ≤ stLen st
section
variable {E : REnv} {k0 sS : Nat} {fs : List Fld} {w w' w'' : World} {O : Nat → Prop} {R B p : Nat} {st sc : Option Bs} {m m' : Option Nat} {tg : za5} {ds : List D} {a : Act} {s : S}
theorem KI.start (hB : RB E a w O R st) (hP : RP (knE E) sS k0 fs a w O R B p s) : KI E k0 fs w O R B p st w none [] st s.ds := by
 have hs : zbl w w (fun g => ¬ O g) (fun g => ¬ (O g ∨ some g = none)) := ⟨fun k _ h => ⟨rfl, by rintro (h1 | h1); exact h h1; cases h1⟩⟩
 exact ⟨Chg.refl _ _, Rest.of rfl, hB.rs.stay hs rfl, hP.at_.goK rfl rfl rfl rfl hs rfl, .inl ⟨rfl, rfl⟩, fun r h => (by cases h), Nat.le_refl _⟩
theorem KI.new (h : KI E k0 fs w O R B p st w' m tg sc ds) (hB : RB E a w O R st) : ∀ k, w'.heap.size ≤ k → ¬ (O k ∨ some k = m) := by
 intro k hk
 have := h.chg.size
 rintro (h1 | h1)
 ·exact hB.new k (by omega) h1
 ·have := (h.mr k h1.symm).2; omega
theorem KI.read {α : Type} {sem : Bs → Option (α × Bs)} {out : World → World → (Nat → Prop) → α → Value → Prop} {v : Value} (h : KI E k0 fs w O R B p st w' m tg sc ds) (oR : O R) (ne : R ≠ B) (hr : Reads w' (fun g => ¬ (O g ∨ some g = m)) R sc sem out v w'') (hl : Less sem) :
  KI E k0 fs w O R B p st w'' m tg ((sc.bind sem).map (·.2)) ds := by
 have hb : w''.heap[B]? = w'.heap[B]? := by
  obtain ⟨_, _, q, _⟩ := h.at_
  exact hr.chg.block B q.lt fun e => ne e.symm
 refine ⟨h.chg.trans hr.chg fun _ _ h => .inl h, h.rest.trans (Rest.of hb), hr.rd, h.at_.goK rfl rfl rfl rfl (zbl.of hr.chg fun k hk _ e => hk (e ▸ .inl oR)) hb, h.tg.stay (zbl.of hr.chg fun k hk _ e => hk (e ▸ oR)), fun r hr' => ?_, Nat.le_trans (hl.st sc) h.len⟩
 have := h.mr r hr'
 have := hr.chg.size
 omega
theorem KI.cell (h : KI E k0 fs w O R B p st w' m tg sc ds) (hfl : E.fl = true) : ∃ cs T, Blk w' B cs T ∧ cs[p + (k0 + lsz true fs)]? = some (.map m) := by
 obtain ⟨cs, T, h1, h2, v1, v2, h3, h4, h5, _⟩ := h.at_
 subst h5
 change (cs.drop (p + k0)).take (ssz E.fl fs) = _ at h3
 change p + k0 + ssz E.fl fs ≤ _ at h2
 have l1 : v1.length = lsz E.fl fs := h4.len.1
 rw [hfl] at h3 h2 l1
 have hsz : ssz true fs = lsz true fs + 1 := rfl
 refine ⟨cs, T, h1, ?_⟩
 have e : p + (k0 + lsz true fs) = p + k0 + lsz true fs := by omega
 rw [e, ← seg_get (n := ssz true fs) (by omega), h3, List.getElem?_append_right (by omega), l1]
 simp
theorem KI.set {w3 : World} {k : Nat} {l : Bs} {cs : List Value} {T : TypeId} (h : KI E k0 fs w O R B p st w' m tg sc ds) (hfl : E.fl = true) (oB : O B) (oR : O R) (ne : R ≠ B) (hb : Blk w' B cs T) (hb3 : Blk w3 B (zaE cs (p + (k0 + lsz true fs)) [.map m']) T) (ht3 : TagsAt w3 (fun g => ¬ O g) m' (tagSet tg k l))
  (hc3 : Chg (fun j => j = B ∨ some j = m) w' w3) (hm : m' = m ∨ ∃ r, m' = some r ∧ w'.heap.size ≤ r) : KI E k0 fs w O R B p st w3 m' (tagSet tg k l) sc ds := by
 have hs3 := hc3.size
 have hs0 := h.chg.size
 have hsz : ssz true fs = lsz true fs + 1 := rfl
 have stG : zbl w' w3 (fun g => ¬ (O g ∨ some g = m)) (fun g => ¬ (O g ∨ some g = m')) := ⟨fun j hj hg => by
  refine ⟨hc3.block j hj ?_, ?_⟩
  ·rintro (e | e)
   ·exact hg (e ▸ .inl oB)
   ·exact hg (.inr e)
  ·rintro (e | e)
   ·exact hg (.inl e)
   ·rcases hm with rfl | ⟨r, rfl, hr⟩
    ·exact hg (.inr e)
    ·cases e; omega⟩
 obtain ⟨cs0, T0, q1, q2, v1, v2, q3, q4, q5, q6⟩ := h.at_
 obtain ⟨rfl, rfl⟩ := q1.inj hb
 subst q5
 change (cs0.drop (p + k0)).take (ssz E.fl fs) = _ at q3
 change p + k0 + ssz E.fl fs ≤ _ at q2
 change RepL _ _ E.fl _ _ _ at q4
 have l1 : v1.length = lsz E.fl fs := q4.len.1
 rw [hfl] at q2 q3 l1
 have hlen : p + k0 + lsz true fs + ([.map m'] : List Value).length ≤ cs0.length := by simp only [List.length_singleton]; omega
 rw [← Nat.add_assoc] at hb3
 refine ⟨h.chg.trans hc3 fun n hn e => ?_, h.rest.trans ?_, h.rd.stay stG (hc3.block R h.rd.lt ?_), ⟨_, _, hb3, ?_, v1, [.map m'], ?_, RepL.stay stG q4, rfl, q6⟩, ht3, fun r hr => ?_, h.len⟩
 ·rcases e with e | e
  ·exact .inr e
  ·have := (h.mr n e.symm).1; omega
 ·intro cs1 T1 hb1
  obtain ⟨rfl, rfl⟩ := hb1.inj hb
  rw [hfl]
  refine ⟨_, hb3, za4 hlen, fun j hj => ?_⟩
  rcases hj with hj | hj
  ·exact splice_below hlen (by omega)
  ·exact splice_above hlen (by simp only [List.length_singleton]; omega)
 ·rintro (e | e)
  ·exact ne e
  ·have h2 := h.rd
   obtain ⟨_, _, h3, _⟩ := h2.blk
   rcases h.tg with ⟨e', _⟩ | ⟨r, es, c, e1, e2, _⟩
   ·rw [e'] at e; cases e
   ·rw [e1] at e; cases e; exact e2 oR
 ·show _ + ssz E.fl fs ≤ _
  rw [hfl, za4 hlen]; exact q2
 ·show List.take (ssz E.fl fs) _ = _
  rw [hfl, seg_splice (by simp only [List.length_singleton]; omega) q2, q3]
  unfold zaE
  rw [List.take_append_of_le_length (by omega), List.take_of_length_le (by omega), List.drop_of_length_le (by simp only [List.length_append, List.length_singleton]; omega), List.append_nil]
 ·rcases hm with rfl | ⟨r', rfl, hr'⟩
  ·have := h.mr r hr; omega
  ·cases hr
   rcases ht3 with ⟨e, _⟩ | ⟨r2, es, c, e1, e2, e3, _⟩
   ·cases e
   ·cases e1
    exact ⟨by omega, (Array.getElem?_eq_some_iff.1 e3).1⟩
theorem KI.inRB {w5 : World} {X cap : Nat} {oa : Option Addr} {l : Bs} {a5 : Act} (h : KI E k0 fs w O R B p st w' m tg sc ds) (hB : RB E a w O R st) (oB : O B) (hc : Chg (fun _ => False) w' w5) (hb5 : Blk w5 w'.heap.size [.slice oa l.length cap, .bool false] tR) (hcap : l.length ≤ cap)
  (hl : zav w' (fun g => ¬ (O g ∨ some g = m)) oa l) (hlen : l.length ≤ RLIM) (hok : ROK E a5) (hx : get a5 X = .pointer (some ⟨w'.heap.size, 0, none⟩)) :
  RB ⟨E.N, E.ver, E.flex, E.fl, X, some (.map m)⟩ a5 w5 (fun g => (O g ∨ some g = m) ∨ g = w'.heap.size) w'.heap.size (some l) := by
 have hs := h.chg.size
 have hg := gE_lt hB.err
 have e5 := ((hB.err.chg h.chg (by rintro (e | e); exact hB.oE (e ▸ hB.oR); exact hB.oE (e ▸ oB))).chg hc fun h => h)
 refine ⟨hok, hx, ⟨oa, cap, hb5, hcap, hl.stay ⟨fun k hk hg => ⟨hc.block k hk (fun h => h), by rintro (e | e); exact hg e; omega⟩⟩⟩, .inr rfl, ?_, e5, ?_, hlen⟩
 ·rintro ((e | e) | e)
  ·exact hB.oE e
  ·have := (h.mr _ e.symm).1; omega
  ·omega
 ·intro k hk
  have := hb5.lt
  rintro (e | e)
  ·exact h.new hB k (by omega) e
  ·omega
theorem KI.inRP {w5 : World} {X : Nat} {a5 : Act} (h : KI E k0 fs w O R B p st w' m tg sc ds) (oB : O B) (hc : Chg (fun _ => False) w' w5) (hx : get a5 sS = .pointer (some ⟨B, p, none⟩)) :
  RP ⟨E.N, E.ver, E.flex, E.fl, X, some (.map m)⟩ sS k0 fs a5 w5 (fun g => (O g ∨ some g = m) ∨ g = w'.heap.size) w'.heap.size B p ⟨ds, []⟩ := by
 have hb : B < w'.heap.size := by
  obtain ⟨_, _, q, _⟩ := h.at_
  exact q.lt
 exact ⟨hx, h.at_.goK rfl rfl rfl rfl ⟨fun k hk hg => ⟨hc.block k hk (fun h => h), by rintro (e | e); exact hg e; omega⟩⟩ (hc.block B hb fun h => h), .inl (.inl oB), by omega⟩
theorem KI.inner {w5 w6 : World} {X : Nat} {s2 : S} (h : KI E k0 fs w O R B p st w' m tg sc ds) (oB : O B) (oR : O R) (ne : R ≠ B) (hc : Chg (fun _ => False) w' w5) (hc6 : Chg (fun k => k = w'.heap.size ∨ k = B) w5 w6) (hr6 : Rest w5 w6 B (p + k0) (ssz E.fl fs))
  (ha6 : AtE ⟨E.N, E.ver, E.flex, E.fl, X, some (.map m)⟩ w6 (fun g => (O g ∨ some g = m) ∨ g = w'.heap.size) fs s2 B (p + k0)) : KI E k0 fs w O R B p st w6 m tg sc s2.ds := by
 have hs0 := h.chg.size
 have hs5 := hc.size
 have hs6 := hc6.size
 have hb : B < w'.heap.size := by
  obtain ⟨_, _, q, _⟩ := h.at_
  exact q.lt
 have key : ∀ k, k < w'.heap.size → k ≠ B → w6.heap[k]? = w'.heap[k]? := fun k hk hkB => (hc6.block k (by omega) (by rintro (e | e); omega; exact hkB e)).trans (hc.block k hk fun h => h)
 have stG : zbl w' w6 (fun g => ¬ (O g ∨ some g = m)) (fun g => ¬ (O g ∨ some g = m)) := ⟨fun k hk hg => ⟨key k hk fun e => hg (e ▸ .inl oB), hg⟩⟩
 refine ⟨(h.chg.trans hc fun _ _ h => h.elim).trans hc6 fun n hn e => ?_, (h.rest.trans (Rest.of (hc.block B hb fun h => h))).trans hr6, h.rd.stay stG (key R h.rd.lt ne), ha6.goK rfl rfl rfl rfl ⟨fun k hk hg => ⟨rfl, fun e => hg (.inl e)⟩⟩ rfl, h.tg.stay ⟨fun k hk hg => ⟨key k hk fun e => hg (e ▸ oB), hg⟩⟩, fun r hr => ?_, h.len⟩
 ·rcases e with e | e
  ·omega
  ·exact .inr e
 ·have := h.mr r hr; omega
theorem KI.failed {w5 w6 : World} (h : KI E k0 fs w O R B p st w' m tg sc ds) (oB : O B) (oR : O R) (hc : Chg (fun _ => False) w' w5) (hc6 : Chg (fun g => (O g ∨ some g = m) ∨ g = w'.heap.size) w5 w6) : Chg O w w6 := by
 have hs0 := h.chg.size
 refine ((h.chg.mono fun k _ e => by rcases e with rfl | rfl; exact oR; exact oB : Chg O w w').trans hc fun _ _ h => h.elim).trans hc6 fun n hn e => ?_
 rcases e with (e | e) | e
 ·exact e
 ·have := (h.mr n e.symm).1; omega
 ·omega
theorem KI.fin (h : KI E k0 fs w O R B p st w' m tg sc ds) (hfl : E.fl = true) (hok : ∀ t, tagOK t) (hj : E.jk = none) : RdS w' (fun g => ¬ O g) R sc ∧ AtE E w' O fs ⟨ds, tg⟩ B (p + k0) := by
 have stG : zbl w' w' (fun g => ¬ (O g ∨ some g = m)) (fun g => ¬ O g) := ⟨fun k hk hg => ⟨rfl, fun e => hg (.inl e)⟩⟩
 refine ⟨h.rd.stay stG rfl, ?_⟩
 obtain ⟨cs0, T0, q1, q2, v1, v2, q3, q4, q5, q6⟩ := h.at_
 refine ⟨cs0, T0, q1, q2, v1, v2, q3, RepL.stay stG q4, ?_⟩
 unfold TgX
 rw [hj]
 show RepT _ _ _ _ _
 rw [hfl]
 unfold RepT
 rw [if_pos rfl]
 exact ⟨m, q5, h.tg, hok _⟩
variable {known : Nat → Option (Nat × (Bs → Option D))} {i : Nat} {f2 : Bs → Option D}
def Kn0 (known : Nat → Option (Nat × (Bs → Option D))) (i : Nat) (f2 : Bs → Option D) : Prop := ∀ k, known k = if k = 0 then some (i, f2) else none
theorem tot_dflt (hk : Kn0 known i f2) {j x1 x2 : Nat} {l : Bs} (e1 : ∀ y, sc.bind zaG = some y → x1 = y.1) (e2 : ∀ y, ((sc.bind zaG).map (·.2)).bind zaG = some y → x2 = y.1)
  (e3 : ∀ y, ((((sc.bind zaG).map (·.2)).bind zaG).map (·.2)).bind (rSpan x2) = some y → l = y.1) (h1 : x1 ≠ 0) :
  sc.bind (rTagged known (j + 1) ⟨ds, tg⟩) = ((((((sc.bind zaG).map (·.2)).bind zaG).map (·.2)).bind (rSpan x2)).map (·.2)).bind (rTagged known j ⟨ds, tagSet tg x1 l⟩) := by
 cases sc with
 | none => rfl
 | some bs =>
  simp only [Option.bind_some] at e1 e2 e3 ⊢
  rw [rTagged]
  dsimp only
  cases a1 : zaG bs with
  | none => rfl
  | some y1 =>
   rw [a1] at e1 e2 e3
   simp only [Option.map_some, Option.bind_some] at e1 e2 e3 ⊢
   have := e1 y1 rfl
   subst this
   cases a2 : zaG y1.2 with
   | none => rfl
   | some y2 =>
    rw [a2] at e2 e3
    simp only [Option.map_some, Option.bind_some] at e2 e3 ⊢
    have := e2 y2 rfl
    subst this
    cases a3 : rSpan (y2.1 : Int) y2.2 with
    | none => rfl
    | some y3 =>
     simp only [Option.map_some, Option.bind_some]
     have := e3 y3 a3
     subst this
     rw [hk y1.1, if_neg h1]
theorem tot_case (hk : Kn0 known i f2) {j x1 x2 : Nat} {l : Bs} (e1 : ∀ y, sc.bind zaG = some y → x1 = y.1) (e2 : ∀ y, ((sc.bind zaG).map (·.2)).bind zaG = some y → x2 = y.1)
  (e3 : ∀ y, ((((sc.bind zaG).map (·.2)).bind zaG).map (·.2)).bind (rSpan x2) = some y → l = y.1) (h1 : x1 = 0) :
  sc.bind (rTagged known (j + 1) ⟨ds, tg⟩) = (f2 l).bind fun d => ((((((sc.bind zaG).map (·.2)).bind zaG).map (·.2)).bind (rSpan x2)).map (·.2)).bind (rTagged known j ⟨ds.set i d, tg⟩) := by
 have hnone : ∀ {g : D → Option (S × Bs)}, (∀ d, g d = none) → (f2 l).bind g = none := fun h => by cases f2 l with
  | none => rfl
  | some d => exact h d
 cases sc with
 | none => exact (hnone fun d => rfl).symm
 | some bs =>
  simp only [Option.bind_some] at e1 e2 e3 ⊢
  rw [rTagged]
  dsimp only
  cases a1 : zaG bs with
  | none => exact (hnone fun d => rfl).symm
  | some y1 =>
   rw [a1] at e1 e2 e3
   simp only [Option.map_some, Option.bind_some] at e1 e2 e3 ⊢
   have := e1 y1 rfl
   subst this
   cases a2 : zaG y1.2 with
   | none => exact (hnone fun d => rfl).symm
   | some y2 =>
    rw [a2] at e2 e3
    simp only [Option.map_some, Option.bind_some] at e2 e3 ⊢
    have := e2 y2 rfl
    subst this
    cases a3 : rSpan (y2.1 : Int) y2.2 with
    | none => exact (hnone fun d => rfl).symm
    | some y3 =>
     simp only [Option.map_some, Option.bind_some]
     have := e3 y3 a3
     subst this
     rw [hk y1.1, if_pos h1]
theorem tot_start {n : Nat} (hx : E.flex = true) (ha : anyTag fs = true) (e1 : ∀ y, st.bind zaG = some y → n = y.1) : st.bind (tlK E fs s) = ((st.bind zaG).map (·.2)).bind (rTagged (zaU E.flex E.ver fs 0) n ⟨s.ds, []⟩) := by
 cases st with
 | none => rfl
 | some bs =>
  simp only [Option.bind_some] at e1 ⊢
  unfold tlK tlP semTagged
  rw [if_pos hx, if_pos ha]
  cases a1 : zaG bs with
  | none => rfl
  | some y1 =>
   have := e1 y1 a1
   subst this
   rfl
theorem kn0_of {f : Fld} : ∀ {fs : List Fld} {i0 i : Nat} {flex : Bool} {ver : Int}, fs[i]? = some f → f.tag = 0 → (∀ (j : Nat) (g : Fld), fs[j]? = some g → j ≠ i → g.tag < 0) → Kn0 (zaU flex ver fs i0) (i0 + i) fun bs => (decF flex ver f bs).map (·.1)
 | [], _, _, _, _, h, _, _ => by simp at h
 | g :: r, i0, 0, flex, ver, h, ht, hn => by
  simp at h; subst h
  have hr : ∀ (r : List Fld) (i0 k : Nat), (∀ (j : Nat) (g : Fld), r[j]? = some g → g.tag < 0) → zaU flex ver r i0 k = none := by
   intro r
   induction r with
   | nil => intro i0 k _; unfold zaU; rfl
   | cons x r ih =>
    intro i0 k h
    unfold zaU
    rw [if_neg (by have := h 0 x rfl; omega)]
    exact ih (i0 + 1) k fun j g hg => h (j + 1) g (by simpa using hg)
  intro k
  unfold zaU
  rw [ht]
  by_cases hk : k = 0
  ·rw [if_pos (by omega), if_pos hk]; rfl
  ·rw [if_neg (by omega), if_neg hk]
   exact hr r (i0 + 1) k fun j g hg => hn (j + 1) g (by simpa using hg) (by omega)
 | g :: r, i0, i + 1, flex, ver, h, ht, hn => by
  intro k
  unfold zaU
  rw [if_neg (by have := hn 0 g rfl (by omega); omega)]
  have := kn0_of (fs := r) (i0 := i0 + 1) (i := i) (flex := flex) (ver := ver) (by simpa using h) ht (fun j g hg hj => hn (j + 1) g (by simpa using hg) (by omega)) k
  rw [this, show i0 + 1 + i = i0 + (i + 1) by omega]
def kn0B (fs : List Fld) (i : Nat) : Bool := (match fs[i]? with | some f => decide (f.tag = 0) | none => false) && (List.range fs.length).all fun j => decide (j = i) || (match fs[j]? with | some g => decide (g.tag < 0) | none => true)
theorem kn0B_out {fs : List Fld} {i : Nat} {f : Fld} (hf : fs[i]? = some f) (h : kn0B fs i = true) (flex : Bool) (ver : Int) : Kn0 (zaU flex ver fs 0) i fun bs => (decF flex ver f bs).map (·.1) := by
 unfold kn0B at h
 rw [hf] at h
 simp only [Bool.and_eq_true, decide_eq_true_eq, List.all_eq_true, Bool.or_eq_true, List.mem_range] at h
 have := kn0_of (i0 := 0) (flex := flex) (ver := ver) hf h.1 fun j g hg hj => by
  have hlt := (List.getElem?_eq_some_iff.1 hg).1
  rcases h.2 j hlt with e | e
  ·exact absurd e hj
  ·rw [hg] at e; exact of_decide_eq_true e
 rwa [Nat.zero_add] at this
theorem rk_off {I mm : Nat} {a1 : Act} (hx : E.flex = false) (hfl : E.fl = true) (hj : E.jk = none) (hok : ∀ t, tagOK t) (hk : zar (RS mm) a a1) (hB : RB E a w O R st) (hP : RP (knE E) sS k0 fs a w O R B p s) (hI : fs.length ≤ I) : RdQ E mm k0 fs I (tlK E fs) a w O R B p st s .normal a1 w := by
 have hki := KI.start hB hP
 have hf := hki.fin hfl hok hj
 refine ⟨hk, Chg.refl _ _, Rest.of rfl, st, ⟨s.ds, []⟩, hB.rs, hf.2, ?_, Nat.le_refl _, fun j hj => rfl⟩
 unfold Stp
 cases st with
 | none => rfl
 | some bs =>
  rw [Option.bind_some]
  unfold tlK tlP
  rw [hx]
  exact ⟨rfl, rfl⟩
end
def InT (E : REnv) (m sS k0 : Nat) (fs : List Fld) (I : Nat) (sem : Sem) (T0 c : Code) : Prop :=
 ∀ (a : Act) (w : World) (O : Nat → Prop) (R B p : Nat) (st : Option Bs) (s : S) (Q : Exit → Act → World → Prop), RB E a w O R st → RP E sS k0 fs a w O R B p s →
  (∀ a' w', RdQ E m k0 fs I sem a w O R B p st s .normal a' w' → T0.wp Tryz.prog Q a' w') → (∀ a' w', RdQ E m k0 fs I sem a w O R B p st s .ret a' w' → Q .ret a' w') → c.wp Tryz.prog Q a w
theorem zar.put0 {S : Nat → Prop} {a b : Act} (h : zar S a b) (v : Value) : zar S a (b.put none v) := h
theorem wp_gen {P : Program} {c : Code} {Q : Exit → Act → World → Prop} {a : Act} {w : World} (h : ∀ a', a' = a → c.wp P Q a' w) : c.wp P Q a w := h a rfl
section
variable {y0 y1 y2 y3 y4 : TypeId} {q0 q1 q2 q3 q4 : String} {e0 e1 e2 e3 e4 : Array Edge} {r0 r1 r2 r3 r4 r5 : Nat}
variable {E : REnv} {m sS k0 i I x y t t1 t2 t3 t4 t5 T ty idx : Nat} {us : Array TypeId} {f : Fld} {fs : List Fld} {pre : S → Prop} {sem : Bs → Option (D × Bs)} {semS : Sem} {fn : FuncId} {a1 a2 a3 a4 a5 : Int} {of : K} {sub : List Fld} {c T0 : Code}
theorem it_store (h : RvC E m x f sem c) (hf : fs[i]? = some f) (hF : (decide (fsz E.fl f = 1) && zbb Tryz.prog T idx (k0 + foff E.fl fs i) 1 && sizeB Tryz.prog ty 1) = true) (hsl : rsl E m [t1, t2, t3, t4] [sS, E.rr] = true) (hx : [t1, t2, t3, t4].all (fun t => decide (t ≠ x)) = true) :
  InT E m sS k0 fs (i + 1) (zbj i sem) T0 (.seq c (.seq (.region r0 #[⟨some t1, .move (.tmp sS), y0, q0, e0, none⟩, ⟨some t2, .move (.tmp x), y1, q1, e1, none⟩, ⟨some t3, .nilCheck (.tmp t1), y2, q2, e2, none⟩, ⟨some t4, .fieldAddr T (.tmp t3) idx, y3, q3, e3, none⟩, ⟨none, .store ty (.tmp t4) (.tmp t2), y4, q4, e4, none⟩] false) T0)) := by
 intro a w O R B p st s Q hB hP hn hr
 refine wp_seq (wp_mono (h a w O R st hB) ?_)
 intro e a1 w1 hq
 cases e <;> try exact hq.elim
 refine wp_seq (wp_mono (wp_put hB hP hq hf hF hsl hx) ?_)
 intro e a2 w2 hq2
 cases e <;> try exact hq2.elim
 ·exact hn a2 w2 hq2
 ·exact hr a2 w2 hq2
theorem it_pre {z : Value} (h : InT E m sS k0 fs I semS T0 c) (hsl : rsl E m [t] [sS] = true) : InT E m sS k0 fs I semS T0 (.seq (.region r0 #[⟨some t, .assign (.const z), y0, q0, e0, none⟩] false) c) := by
 obtain ⟨hm, hw, hr, hnd⟩ := zaN hsl
 simp only [List.mem_cons, List.not_mem_nil, or_false, forall_eq] at hw hr
 intro a w O R B p st s Q hB hP hn hrt
 refine qsr fun K hK => ?_
 refine zah ?_
 refine zaa (hK _ _ ?_)
 have hk : zar (RS m) a (a.put (some t) (a.eval (.const z))) := (zar.refl _ _).put hw.1 _
 refine h _ w O R B p st s Q (hB.next hm hk (Chg.refl (fun _ => False) _) (fun _ h => h.elim) hB.rs (Nat.le_refl _)) ⟨(hk.slot _ ⟨hr.1, hr.2⟩).trans hP.pt, hP.at_, hP.oB, hP.ne⟩ (fun a' w' hq => hn a' w' ?_) (fun a' w' hq => hrt a' w' hq)
 obtain ⟨h1, h2⟩ := hq
 exact ⟨hk.trans h1, h2⟩
end
set_option maxHeartbeats 4000000
def rTagS (known : Nat → Option (Nat × (Bs → Option D))) : Nat → Bool → Sem
 | 0, _ => Sem.id
 | n + 1, seen => fun s bs => (zaG bs).bind fun k => (zaG k.2).bind fun l => (rSpan l.1 l.2).bind fun v =>
  match known k.1 with
  | none => rTagS known n seen { s with tags := tagSet s.tags k.1 v.1 } v.2
  | some f => if seen then none else (f.2 v.1).bind fun d => rTagS known n true { s with ds := s.ds.set f.1 d } v.2
def tlS (flex : Bool) (ver : Int) (fs : List Fld) : Sem := fun s bs => if flex then (zaG bs).bind fun n => rTagS (zaU flex ver fs 0) n.1 false ⟨s.ds, []⟩ n.2 else some (s, bs)
def OkS (flex : Bool) (ver : Int) (fs : List Fld) (bs : Bs) : Prop := ((decL flex ver fs bs).bind fun x => tlS flex ver fs ⟨x.1, []⟩ x.2).isSome = true
def RkCc (E : REnv) (m sS k0 : Nat) (fs : List Fld) (I : Nat) (pre : S → Prop) (sem ok : Sem) (c : Code) : Prop :=
 ∀ (a : Act) (w : World) (O : Nat → Prop) (R B p : Nat) (st : Option Bs) (s : S), RB E a w O R st → RP (knE E) sS k0 fs a w O R B p s → pre s → (st.bind (ok s)).isSome = true → c.wp Tryz.prog (RdQ E m k0 fs I sem a w O R B p st s) a w
def RkTc (E : REnv) (m sS k0 : Nat) (fs : List Fld) (pre : S → Prop) (sem ok : Sem) (c : Code) : Prop :=
 ∀ (a : Act) (w : World) (O : Nat → Prop) (R B p : Nat) (st : Option Bs) (s : S), RB E a w O R st → RP (knE E) sS k0 fs a w O R B p s → pre s → (st.bind (ok s)).isSome = true → c.wp Tryz.prog (RtQ E m k0 fs sem w O R B p st s) a w
section
variable {known : Nat → Option (Nat × (Bs → Option D))} {i : Nat} {f2 : Bs → Option D} {sc st : Option Bs} {ds : List D} {tg : za5} {E : REnv} {fs : List Fld} {s : S}
theorem totS_dflt (hk : Kn0 known i f2) {j x1 x2 : Nat} {seen : Bool} {l : Bs} (e1 : ∀ y, sc.bind zaG = some y → x1 = y.1) (e2 : ∀ y, ((sc.bind zaG).map (·.2)).bind zaG = some y → x2 = y.1)
  (e3 : ∀ y, ((((sc.bind zaG).map (·.2)).bind zaG).map (·.2)).bind (rSpan x2) = some y → l = y.1) (h1 : x1 ≠ 0) :
  sc.bind (rTagS known (j + 1) seen ⟨ds, tg⟩) = ((((((sc.bind zaG).map (·.2)).bind zaG).map (·.2)).bind (rSpan x2)).map (·.2)).bind (rTagS known j seen ⟨ds, tagSet tg x1 l⟩) := by
 cases sc with
 | none => rfl
 | some bs =>
  simp only [Option.bind_some] at e1 e2 e3 ⊢
  rw [rTagS]
  dsimp only
  cases a1 : zaG bs with
  | none => rfl
  | some y1 =>
   rw [a1] at e1 e2 e3
   simp only [Option.map_some, Option.bind_some] at e1 e2 e3 ⊢
   have := e1 y1 rfl
   subst this
   cases a2 : zaG y1.2 with
   | none => rfl
   | some y2 =>
    rw [a2] at e2 e3
    simp only [Option.map_some, Option.bind_some] at e2 e3 ⊢
    have := e2 y2 rfl
    subst this
    cases a3 : rSpan (y2.1 : Int) y2.2 with
    | none => rfl
    | some y3 =>
     simp only [Option.map_some, Option.bind_some]
     have := e3 y3 a3
     subst this
     rw [hk y1.1, if_neg h1]
theorem totS_case (hk : Kn0 known i f2) {j x1 x2 : Nat} {l : Bs} (e1 : ∀ y, sc.bind zaG = some y → x1 = y.1) (e2 : ∀ y, ((sc.bind zaG).map (·.2)).bind zaG = some y → x2 = y.1)
  (e3 : ∀ y, ((((sc.bind zaG).map (·.2)).bind zaG).map (·.2)).bind (rSpan x2) = some y → l = y.1) (h1 : x1 = 0) :
  sc.bind (rTagS known (j + 1) false ⟨ds, tg⟩) = (f2 l).bind fun d => ((((((sc.bind zaG).map (·.2)).bind zaG).map (·.2)).bind (rSpan x2)).map (·.2)).bind (rTagS known j true ⟨ds.set i d, tg⟩) := by
 have hnone : ∀ {g : D → Option (S × Bs)}, (∀ d, g d = none) → (f2 l).bind g = none := fun h => by cases f2 l with
  | none => rfl
  | some d => exact h d
 cases sc with
 | none => exact (hnone fun d => rfl).symm
 | some bs =>
  simp only [Option.bind_some] at e1 e2 e3 ⊢
  rw [rTagS]
  dsimp only
  cases a1 : zaG bs with
  | none => exact (hnone fun d => rfl).symm
  | some y1 =>
   rw [a1] at e1 e2 e3
   simp only [Option.map_some, Option.bind_some] at e1 e2 e3 ⊢
   have := e1 y1 rfl
   subst this
   cases a2 : zaG y1.2 with
   | none => exact (hnone fun d => rfl).symm
   | some y2 =>
    rw [a2] at e2 e3
    simp only [Option.map_some, Option.bind_some] at e2 e3 ⊢
    have := e2 y2 rfl
    subst this
    cases a3 : rSpan (y2.1 : Int) y2.2 with
    | none => exact (hnone fun d => rfl).symm
    | some y3 =>
     simp only [Option.map_some, Option.bind_some]
     have := e3 y3 a3
     subst this
     rw [hk y1.1, if_pos h1]; rfl
theorem totS_seen (hk : Kn0 known i f2) {j x1 : Nat} (e1 : ∀ y, sc.bind zaG = some y → x1 = y.1) (h1 : x1 = 0) : (sc.bind (rTagS known (j + 1) true ⟨ds, tg⟩)) = none := by
 cases sc with
 | none => rfl
 | some bs =>
  simp only [Option.bind_some] at e1 ⊢
  rw [rTagS]
  dsimp only
  cases a1 : zaG bs with
  | none => rfl
  | some y1 =>
   have := e1 y1 a1
   subst this
   simp only [Option.bind_some]
   cases a2 : zaG y1.2 with
   | none => rfl
   | some y2 =>
    simp only [Option.bind_some]
    cases a3 : rSpan (y2.1 : Int) y2.2 with
    | none => rfl
    | some y3 =>
     simp only [Option.bind_some]
     rw [hk y1.1, if_pos h1]; rfl
theorem totS_start {n : Nat} (hx : E.flex = true) (e1 : ∀ y, st.bind zaG = some y → n = y.1) : st.bind (tlS E.flex E.ver fs s) = ((st.bind zaG).map (·.2)).bind (rTagS (zaU E.flex E.ver fs 0) n false ⟨s.ds, []⟩) := by
 cases st with
 | none => rfl
 | some bs =>
  simp only [Option.bind_some] at e1 ⊢
  unfold tlS
  rw [if_pos hx]
  cases a1 : zaG bs with
  | none => rfl
  | some y1 =>
   have := e1 y1 a1
   subst this
   rfl
end
section
variable {E : REnv} {m sS k0 I i : Nat} {fs : List Fld} {pre : S → Prop} {sem tl ok : Sem} {c c1 c2 : Code} {f : Fld}
theorem rtxc_mono {pre' : S → Prop} {sem' ok' : Sem} (h : RkTc E m sS k0 fs pre' sem' ok' c) (hp : ∀ s, pre s → pre' s) (he : ∀ s bs, pre s → s.ds.length = fs.length → sem s bs = sem' s bs) (he2 : ∀ s bs, pre s → s.ds.length = fs.length → ok s bs = ok' s bs) : RkTc E m sS k0 fs pre sem ok c := by
 intro a w O R B p st s hB hP hpre hok
 have hlen := hP.at_.len
 have hsem2 : st.bind (ok s) = st.bind (ok' s) := by
  cases st with
  | none => rfl
  | some bs => exact he2 s bs hpre hlen
 refine wp_mono (h a w O R B p st s hB hP (hp s hpre) (by rw [← hsem2]; exact hok)) ?_
 intro e a1 w1 hq
 have hsem : st.bind (sem s) = st.bind (sem' s) := by
  cases st with
  | none => rfl
  | some bs => exact he s bs hpre hlen
 cases e <;> try exact hq.elim
 unfold RtQ at hq ⊢
 rw [hsem]; exact hq
theorem rtxc_next (hf : fs[i]? = some f) (hsl : rsl E m [] [sS] = true) (h1 : RdC ⟨E.N, E.ver, E.flex, E.fl, E.rr, some (.map none)⟩ m sS k0 fs (i + 1) (zbe fs i) (zbr ⟨E.N, E.ver, E.flex, E.fl, E.rr, some (.map none)⟩ f i) c1) (h2 : RkTc E m sS k0 fs (zbe fs (i + 1)) (semL E fs (i + 1) tl) (semL E fs (i + 1) ok) c2) :
  RkTc E m sS k0 fs (zbe fs i) (semL E fs i tl) (semL E fs i ok) (.seq c1 c2) := by
 replace h1 : RdC (knE E) m sS k0 fs (i + 1) (zbe fs i) (zbr E f i) c1 := h1
 obtain ⟨hm, hw, hr, hnd⟩ := zaN hsl
 simp only [List.mem_cons, List.not_mem_nil, or_false, forall_eq] at hr
 intro a w O R B p st s hB hP hpre hok
 have hlen := hP.at_.len
 have hsem : st.bind (semL E fs i tl s) = (st.bind (zbr E f i s)).bind fun x => semL E fs (i + 1) tl x.1 x.2 := by
  cases st with
  | none => rfl
  | some bs => exact semL_step hf hpre hlen
 have hsem2 : st.bind (semL E fs i ok s) = (st.bind (zbr E f i s)).bind fun x => semL E fs (i + 1) ok x.1 x.2 := by
  cases st with
  | none => rfl
  | some bs => exact semL_step hf hpre hlen
 refine wp_seq (wp_mono (h1 a w O R B p st s (hB.st _) hP hpre) ?_)
 intro e a1 w1 hq
 cases e <;> try exact hq.elim
 ·obtain ⟨hk, hc, hrs, st1, s1, hs1, ha1, hstp, hl, hI1⟩ := hq
  have hcO : Chg O w w1 := hc.mono fun k _ hk => by rcases hk with rfl | rfl; exact hB.oR; exact hP.oB
  have hB1 := hB.next hm hk hc (fun k hk => by rcases hk with rfl | rfl; exact hB.oR; exact hP.oB) hs1 hl
  have hP1 : RP (knE E) sS k0 fs a1 w1 O R B p s1 := ⟨(hk.slot _ hr).trans hP.pt, ha1, hP.oB, hP.ne⟩
  have hst2 : st1.bind (semL E fs (i + 1) ok s1) = st.bind (semL E fs i ok s) := by
   unfold Stp at hstp
   rw [hsem2]
   cases hh : st.bind (zbr E f i s) with
   | none => rw [hh] at hstp; rw [hstp]; rfl
   | some y => rw [hh] at hstp; rw [hstp.1, hstp.2]; rfl
  refine wp_mono (h2 a1 w1 O R B p st1 s1 hB1 hP1 (hpre.on (by omega) hI1) (by rw [hst2]; exact hok)) ?_
  intro e a2 w2 hq
  cases e <;> try exact hq.elim
  obtain ⟨q1, q2⟩ := hq
  unfold Stp at hstp
  have hst : st1.bind (semL E fs (i + 1) tl s1) = st.bind (semL E fs i tl s) := by
   rw [hsem]
   cases hh : st.bind (zbr E f i s) with
   | none => rw [hh] at hstp; rw [hstp]; rfl
   | some y => rw [hh] at hstp; rw [hstp.1, hstp.2]; rfl
  rw [hst] at q2
  refine ⟨q1, ?_⟩
  rcases q2 with ⟨x1, x2, x3⟩ | ⟨s2, r, x1, x2, x3, x4, x5⟩
  ·exact .inl ⟨x1, x2, hcO.trans x3 fun _ _ h => h⟩
  ·exact .inr ⟨s2, r, x1, x2, hc.trans x3 fun _ _ h => h, x4, hrs.trans x5⟩
 ·obtain ⟨q1, q2, q3, q4⟩ := hq
  refine ⟨q1, .inl ⟨?_, q2, q4⟩⟩
  rw [hsem, q3]; rfl
theorem rtxc_tagged (hf : fs[i]? = some f) (ht : decide (0 ≤ f.tag) = true) (h : RkTc E m sS k0 fs (zbe fs (i + 1)) (semL E fs (i + 1) tl) (semL E fs (i + 1) ok) c) : RkTc E m sS k0 fs (zbe fs i) (semL E fs i tl) (semL E fs i ok) c := by
 have hs : ∀ (tl : Sem) s bs, zbe fs i s → s.ds.length = fs.length → semL E fs i tl s bs = semL E fs (i + 1) tl s bs := fun tl s bs hfr hlen => by
  rw [semL_step hf hfr hlen]
  unfold zbr
  have := of_decide_eq_true ht
  rw [if_neg (by simp; omega)]
  rfl
 exact rtxc_mono h (fun _ h => h.up (by omega)) (hs tl) (hs ok)
theorem rtxc_lastK (hf : fs[i]? = some f) (hl : decide (fs.length = i + 1) = true) (ht : decide (0 ≤ f.tag) = true) (h : RkTc E m sS k0 fs (zbe fs i) tl ok c) : RkTc E m sS k0 fs (zbe fs i) (semL E fs i tl) (semL E fs i ok) c := by
 have hs : ∀ (tl : Sem) s bs, zbe fs i s → s.ds.length = fs.length → semL E fs i tl s bs = tl s bs := fun tl s bs hfr hlen => by
  rw [semL_step hf hfr hlen]
  unfold zbr
  have := of_decide_eq_true ht
  have := of_decide_eq_true hl
  rw [if_neg (by simp; omega)]
  exact semL_end (by omega) hlen
 exact rtxc_mono h (fun _ h => h) (hs tl) (hs ok)
theorem fresh_last {s : S} (hf : fs[i]? = some f) (hl : decide (fs.length = i + 1) = true) (h : s.ds[i]? = some (dfltF f)) : zbe fs i s := by
 intro j g hj hg
 have h1 := (List.getElem?_eq_some_iff.1 hg).1
 have h2 := of_decide_eq_true hl
 obtain rfl : j = i := by omega
 rw [hf] at hg; cases hg; exact h
theorem rtxc_tl (hsl : rsl E m [] [sS] = true) (h1 : RkCc E m sS k0 fs I pre tl ok c1) (h2 : RtC E m sS k0 fs (fun _ => True) (fun s bs => some (s, bs)) c2) : RkTc E m sS k0 fs pre tl ok (.seq c1 c2) := by
 obtain ⟨hm, hw, hr, hnd⟩ := zaN hsl
 simp only [List.mem_cons, List.not_mem_nil, or_false, forall_eq] at hr
 intro a w O R B p st s hB hP hpre hok
 refine wp_seq (wp_mono (h1 a w O R B p st s hB hP hpre hok) ?_)
 intro e a1 w1 hq
 cases e <;> try exact hq.elim
 ·obtain ⟨hk, hc, hrs, st1, s1, hs1, ha1, hstp, hl, hI1⟩ := hq
  have hcO : Chg O w w1 := hc.mono fun k _ hk => by rcases hk with rfl | rfl; exact hB.oR; exact hP.oB
  have hB1 := hB.next hm hk hc (fun k hk => by rcases hk with rfl | rfl; exact hB.oR; exact hP.oB) hs1 hl
  have hP1 : RP E sS k0 fs a1 w1 O R B p s1 := ⟨(hk.slot _ hr).trans hP.pt, ha1, hP.oB, hP.ne⟩
  refine wp_mono (h2 a1 w1 O R B p st1 s1 hB1 hP1 trivial) ?_
  intro e a2 w2 hq
  cases e <;> try exact hq.elim
  obtain ⟨q1, q2⟩ := hq
  unfold Stp at hstp
  have hst : (st1.bind fun bs => some (s1, bs)) = st.bind (tl s) := by
   cases hh : st.bind (tl s) with
   | none => rw [hh] at hstp; rw [hstp]; rfl
   | some y => rw [hh] at hstp; rw [hstp.1, hstp.2]; rfl
  rw [hst] at q2
  refine ⟨q1, ?_⟩
  rcases q2 with ⟨x1, x2, x3⟩ | ⟨s2, r, x1, x2, x3, x4, x5⟩
  ·exact .inl ⟨x1, x2, hcO.trans x3 fun _ _ h => h⟩
  ·exact .inr ⟨s2, r, x1, x2, hc.trans x3 fun _ _ h => h, x4, hrs.trans x5⟩
 ·obtain ⟨q1, q2, q3, q4⟩ := hq
  exact ⟨q1, .inl ⟨q3, q2, q4⟩⟩
end
def ReadsFc (fn : FuncId) (fl : Bool) (flx : Int → Bool) (fs : List Fld) (dc : List Value) (extra : List Value) : Prop :=
 ∀ (ver : Int) (w : World) (B : Nat) (T : TypeId) (oa : Option Addr) (bs : Bs) (cap : Nat), 0 ≤ ver → OkS (flx ver) ver fs bs → Blk w B (.int .i16 ver :: dc) T → zav w (fun g => g ≠ B) oa bs → bs.length ≤ cap → bs.length ≤ RLIM → B ≠ gE → ErrW w →
  zaF Tryz.prog fn (#[.pointer (some ⟨B, 0, none⟩), .slice oa bs.length cap] ++ extra.toArray) w (ReadP w fl (flx ver) ver fs B bs)
section
variable {y0 y1 y2 y3 y4 y5 y6 y7 y8 y9 y10 y11 y12 y13 y14 y15 y16 y17 y18 : TypeId} {q0 q1 q2 q3 q4 q5 q6 q7 q8 q9 q10 q11 q12 q13 q14 q15 q16 q17 q18 : String} {e0 e1 e2 e3 e4 e5 e6 e7 e8 e9 e10 e11 e12 e13 e14 e15 e16 e17 e18 : Array Edge} {r0 r1 r2 r3 r4 r5 : Nat}
variable {E : REnv} {m sS B R T : Nat} {N : Nat} {us us2 : Array TypeId} {fs : List Fld} {c : Code} {dc : List Value} {ver : Int} {a : Act} {w w0 : World} {oa : Option Addr} {bs : Bs} {cap : Nat} {fnD : FuncId} {Q : Exit → Act → World → Prop} {r6 r7 r8 r9 : Nat}
theorem read_endKc {k0 : Nat} {E : REnv} (hk0 : k0 = 1) (h : RkTc E m sS k0 fs (zbe fs 0) (semL E fs 0 (tlK E fs)) (semL E fs 0 (tlS E.flex E.ver fs)) c) (hok : OkS E.flex E.ver fs bs) (hB : RB E a w (fun g => g = B ∨ g = R) R (some bs)) (hP : RP (knE E) sS k0 fs a w (fun g => g = B ∨ g = R) R B 0 ⟨dfltL fs, []⟩)
  (hb : ∃ cs T, Blk w B cs T ∧ cs[0]? = some (.int .i16 ver)) (hc : Chg (fun k => k = B) w0 w) (hR : w0.heap.size ≤ R) (hv : E.ver = ver) : c.wp Tryz.prog (Fin 6 (ReadP w0 E.fl E.flex ver fs B bs)) a w := by
 subst hk0 hv
 refine wp_mono (h a w _ R B 0 (some bs) _ hB hP (fresh0 fs) (by
  have hok2 := hok
  unfold OkS at hok2
  rw [Option.bind_some]
  unfold semL
  simp only [List.drop_zero, List.take_zero, List.nil_append]
  exact hok2)) ?_
 intro e a1 w1 hq
 cases e <;> try exact hq.elim
 obtain ⟨hd, hq⟩ := hq
 have eK : semL E fs 0 (tlK E fs) ⟨dfltL fs, []⟩ = semL E fs 0 (tlP E fs) ⟨dfltL fs, []⟩ := rfl
 rw [eK] at hq
 rw [Option.bind_some, ← part_sem] at hq
 refine ⟨hd, ?_⟩
 rcases hq with ⟨k1, ⟨t, x, k2⟩, k3⟩ | ⟨s, r, k1, k2, k3, k4, k5⟩
 ·exact ⟨hc.trans k3 fun k hk h => by rcases h with h | h; exact h; omega, .inl ⟨k1, t, x, k2⟩⟩
 ·refine ⟨hc.trans k3 fun k hk h => by rcases h with h | h; omega; exact h, .inr ⟨s, r, k1, k2, ?_, ?_⟩⟩
  ·rw [Nat.zero_add] at k4
   exact k4.stay (zbl.sub fun k _ h hb => h (.inl hb)) rfl
  ·obtain ⟨cs, T, q1, q2⟩ := hb
   obtain ⟨cs', q3, q4, q5⟩ := k5 cs T q1
   exact ⟨cs', T, q3, by rw [q5 0 (.inl (by omega))]; exact q2⟩
theorem read_flexKc {fn : FuncId} {func : Func} {N t1 t2 t3 t4 T ty u v1 v2 v3 v4 v5 v6 v7 v8 v9 fnD : Nat} {vf : Int} {fs : List Fld} {c : Code} {dc : List Value}
  (hfn : (Tryz.prog).funcs[fn]? = some func)
  (hbody : func.body = some (.seq (.region r0 #[⟨some 6, .assign (.const .nilIface), y0, q0, e0, none⟩] false) (.seq (.region r1 #[⟨some t1, .move (.tmp 0), y1, q1, e1, none⟩, ⟨some t2, .call { callee := .value (.func fnD), args := #[.tmp t1], argTypes := us }, y2, q2, e2, none⟩] false)
   (.seq (.region r2 #[⟨some t3, .move (.tmp 1), y3, q3, e3, none⟩, ⟨some t4, .build tR #[(0, .tmp t3)], y4, q4, e4, none⟩, ⟨some 7, .alloc tR, y5, q5, e5, none⟩, ⟨none, .store tR (.tmp 7) (.tmp t4), y6, q6, e6, none⟩] false)
    (.seq (.region r3 #[⟨some v1, .move (.tmp 0), y7, q7, e7, none⟩, ⟨some v2, .nilCheck (.tmp v1), y8, q8, e8, none⟩, ⟨some v3, .fieldAddr T (.tmp v2) 0, y9, q9, e9, none⟩, ⟨some v4, .load ty (.tmp v3), y10, q10, e10, none⟩, ⟨some 8, .assign (.tmp v4), y11, q11, e11, none⟩] false)
    (.seq (.region r4 #[⟨some v5, .move (.tmp 8), y12, q12, e12, none⟩] false) (.seq (.region r5 #[⟨some v7, .move (.tmp 8), y13, q13, e13, none⟩, ⟨some v8, .binOp .geq u (.tmp v7) (.const (.int .i16 vf)) u, y14, q14, e14, none⟩, ⟨some 9, .assign (.tmp v8), y15, q15, e15, none⟩] false) (.seq (.region r6 #[⟨some v9, .move (.tmp 9), y16, q16, e16, none⟩] false) (.seq (.region r7 #[⟨some v6, .move (.tmp 0), y17, q17, e17, none⟩, ⟨some 10, .assign (.tmp v6), y18, q18, e18, none⟩] false) c)))))))))
  (hres : func.results = #[.tmp 6]) (hNf : func.ntmps = N) (hen : zaY Tryz.prog fnD) (hdef : DefM fnD dc)
  (hF : ((decide ((0 :: 1 :: 2 :: 6 :: 7 :: 8 :: 9 :: 10 :: [t1, t2, t3, t4]).Nodup) && [0, 1, 2, 6, 7, 8, t1, t2, t3, t4].all (fun t => decide (t < N))) && decide ((0 :: 1 :: 2 :: 7 :: 8 :: 9 :: 10 :: [v1, v2, v3, v4, v5, v6, v7, v8, v9]).Nodup) && [8, 9, 10, v1, v2, v3, v4, v5, v6, v7, v8, v9].all (fun t => decide (t < N)) && zbb Tryz.prog T 0 0 1 && scalB Tryz.prog ty && repSB true fs (dfltL fs) dc && decide (dc.length = ssz true fs)) = true)
  (h : ∀ ver : Int, 0 ≤ ver → RkTc ⟨N, ver, decide (vf ≤ ver), true, 7, none⟩ 11 10 1 fs (zbe fs 0) (semL ⟨N, ver, decide (vf ≤ ver), true, 7, none⟩ fs 0 (tlK ⟨N, ver, decide (vf ≤ ver), true, 7, none⟩ fs)) (semL ⟨N, ver, decide (vf ≤ ver), true, 7, none⟩ fs 0 (tlS (decide (vf ≤ ver)) ver fs)) c) : ReadsFc fn true (fun ver => decide (vf ≤ ver)) fs dc [.bool false] := by
 simp only [Bool.and_eq_true, decide_eq_true_eq (p := List.Nodup _), decide_eq_true_eq (p := dc.length = _)] at hF
 obtain ⟨⟨⟨⟨⟨⟨hF0, hnd⟩, hlt⟩, f1⟩, f2⟩, f3⟩, f4⟩ := hF
 simp only [List.all_eq_true, decide_eq_true_eq] at hlt
 simp only [qne, List.nodup_cons, not_or, List.nodup_nil, and_true, not_false_eq_true] at hnd hlt
 intro ver w B Tm oa bs cap hver hokS hb hsrc hcap hlim hBE herr
 refine zaq hfn hbody hres hNf (by show 3 ≤ N; omega) ?_
 intro a hN hD ha
 have h0 : get a 0 = .pointer (some ⟨B, 0, none⟩) := ha 0 _ rfl
 have h1 : get a 1 = .slice oa bs.length cap := ha 1 _ rfl
 have h2 : get a 2 = .bool false := ha 2 _ rfl
 refine read_start hN hD h0 h1 (by simp only [Bool.and_eq_true]; exact ⟨decide_eq_true hF0.1, hF0.2⟩) hen hdef hb hsrc hcap hlim hBE herr fun a1 w1 R hk g7 hr hb1 hc hR1 hR2 hRB herr1 => ?_
 have hN1 : a1.tmps.size = N := hk.size.trans hN
 have hD1 : a1.defers = [] := hk.defers.trans hD
 have g0 : get a1 0 = .pointer (some ⟨B, 0, none⟩) := (hk.slot 0 (.inl rfl)).trans h0
 have g2 : get a1 2 = .bool false := (hk.slot 2 (.inr (.inr rfl))).trans h2
 clear hF0 hk ha h0 h1 h2
 refine qsr fun K hK => ?_
 refine zal ?_
 simp only [zaf, zai, zad, zae, zap, ne_eq, zag, hN1, hnd, hlt, not_false_eq_true, g0, g2, g7]
 refine zaS (p := ⟨B, 0, none⟩) (by simp only [zaf, zai, zad, zae, zap, ne_eq, zag, hN1, hnd, hlt, not_false_eq_true, g0, g2, g7]) ?_
 refine zaP (b := B) (o := 0) f1 (by simp only [zaf, zai, zad, zae, zap, ne_eq, zag, hN1, hnd, hlt, not_false_eq_true, g0, g2, g7]) ?_
 refine zaK (b := B) (o := 0 + 0) f2 (by simp only [zaf, zai, zad, zae, zap, ne_eq, zag, hN1, hnd, hlt, not_false_eq_true, g0, g2, g7]) hb1 rfl ?_
 refine zah ?_
 simp only [zaf, zai, zad, zae, zap, ne_eq, zag, hN1, hnd, hlt, not_false_eq_true, g0, g2, g7]
 refine zaa (hK _ _ ?_)
 clear hK K
 refine qsr fun K hK => ?_
 refine zal ?_
 simp only [zaf, zai, zad, zae, zap, ne_eq, zag, hN1, hnd, hlt, not_false_eq_true, g0, g2, g7]
 refine zaa (hK _ _ ?_)
 clear hK K
 refine qsr fun K hK => ?_
 refine zal ?_
 simp only [zaf, zai, zad, zae, zap, ne_eq, zag, hN1, hnd, hlt, not_false_eq_true, g0, g2, g7]
 refine wl_geq (by simp only [zaf, zai, zad, zae, zap, ne_eq, zag, hN1, hnd, hlt, not_false_eq_true, g0, g2, g7]; rfl) ?_
 simp only [zaf, zai, zad, zae, zap, ne_eq, zag, hN1, hnd, hlt, not_false_eq_true, g0, g2, g7]
 simp only [cmp2]
 refine zah ?_
 simp only [zaf, zai, zad, zae, zap, ne_eq, zag, hN1, hnd, hlt, not_false_eq_true, g0, g2, g7]
 refine zaa (hK _ _ ?_)
 clear hK K
 refine qsr fun K hK => ?_
 refine zal ?_
 simp only [zaf, zai, zad, zae, zap, ne_eq, zag, hN1, hnd, hlt, not_false_eq_true, g0, g2, g7]
 refine zaa (hK _ _ ?_)
 clear hK K
 refine qsr fun K hK => ?_
 refine zal ?_
 simp only [zaf, zai, zad, zae, zap, ne_eq, zag, hN1, hnd, hlt, not_false_eq_true, g0, g2, g7]
 refine zah ?_
 simp only [zaf, zai, zad, zae, zap, ne_eq, zag, hN1, hnd, hlt, not_false_eq_true, g0, g2, g7]
 refine zaa (hK _ _ ?_)
 clear hK K
 refine read_endKc (E := ⟨N, ver, decide (vf ≤ ver), true, 7, none⟩) rfl (h ver hver) hokS ⟨⟨by simp only [zag, hN1], by simp only [zab, hD1], by simp only [zaf, zai, zad, zae, zap, ne_eq, zag, hN1, hnd, hlt, not_false_eq_true, g0, g2, g7], by simp only [zaf, zai, zad, zae, zap, ne_eq, zag, hN1, hnd, hlt, not_false_eq_true, g0, g2, g7], fun e => by simp only [zaf, zai, zad, zae, zap, ne_eq, zag, hN1, hnd, hlt, not_false_eq_true, g0, g2, g7]⟩, by simp only [zaf, zai, zad, zae, zap, ne_eq, zag, hN1, hnd, hlt, not_false_eq_true, g0, g2, g7], hr, .inr rfl, fun h => ?_, herr1, fun k hk h => ?_, hlim⟩ ⟨by simp only [zaf, zai, zad, zae, zap, ne_eq, zag, hN1, hnd, hlt, not_false_eq_true, g0, g2, g7], ⟨_, _, hb1, ?_, ?_⟩, .inl rfl, hRB⟩ ⟨_, _, hb1, rfl⟩ hc hR1 rfl
 ·clear hnd
  rcases h with h | h
  ·exact hBE h.symm
  ·rw [← h] at hR1
   have := gE_lt herr
   omega
 ·clear hnd
  rcases h with h | h
  ·have := hb1.lt; omega
  ·omega
 ·clear hnd
  simp only [List.length_cons]; omega
 ·clear hnd
  rw [show (0 : Nat) + 1 = 1 from rfl, List.drop_succ_cons, List.drop_zero, List.take_of_length_le (by simp only; omega)]
  exact AtE.ofK (E := ⟨N, ver, decide (vf ≤ ver), true, 7, none⟩) rfl f3
end
section
variable {y0 y1 y2 y3 y4 y5 y6 y7 y8 y9 y10 y11 y12 y13 y14 y15 y16 y17 y18 y19 y20 y21 y22 y23 y24 y25 y26 y27 y28 y29 y30 y31 y32 y33 y34 : TypeId} {q0 q1 q2 q3 q4 q5 q6 q7 q8 q9 q10 q11 q12 q13 q14 q15 q16 q17 q18 q19 q20 q21 q22 q23 q24 q25 q26 q27 q28 q29 q30 q31 q32 q33 q34 : String} {e0 e1 e2 e3 e4 e5 e6 e7 e8 e9 e10 e11 e12 e13 e14 e15 e16 e17 e18 e19 e20 e21 e22 e23 e24 e25 e26 e27 e28 e29 e30 e31 e32 e33 e34 : Array Edge} {r0 r1 r2 r3 r4 r5 : Nat}
variable {r6 r7 r8 r9 r10 r11 r12 r13 : Nat}
variable {E : REnv} {m mB sS k0 i I x y ys aS iS lS vS t1 t2 t3 t4 t5 t6 t7 t8 t9 t10 t11 t12 t13 t14 t15 t16 t17 w1' w2' w3' w4' w5' u1 u2 u3 u4 u5 v1 v2 v3 v4 b1 b2 ug uo uc ui : Nat} {fs sub : List Fld} {pre : S → Prop} {c c1 c2 body cl cn cr T0 : Code} {us us2 us3 : Array TypeId} {fn : FuncId} {T ty ti idx off ua uoT tyV tyW tyE sz : Nat} {a1 a2 a3 a4 a5 : Int} {of : K} {z : Value} {f : Fld} {sem : Bs → Option (D × Bs)} {tl semS : Sem}
theorem wp_put2T {a a1 : Act} {w w1 : World} {O : Nat → Prop} {R B p : Nat} {st : Option Bs} {s : S} {Q : Exit → Act → World → Prop} (hn : ∀ a' w', RdQ E m k0 fs (i + 1) (zbj i sem) a w O R B p st s .normal a' w' → T0.wp Tryz.prog Q a' w') (hr : ∀ a' w', RdQ E m k0 fs (i + 1) (zbj i sem) a w O R B p st s .ret a' w' → Q .ret a' w')
  (hB : RB E a w O R st) (hP : RP E sS k0 fs a w O R B p s) (hq : RvQ E m sem f x a w O R st a1 w1) (hf : fs[i]? = some f)
  (hF : (decide (fsz E.fl f = 1) && zbb Tryz.prog T idx (k0 + foff E.fl fs i) 1 && sizeB Tryz.prog ty 1) = true) (hsl0 : rsl E m [t5, vS] [] = true) (hsl : rsl E m [t1, t2, t3, t4] [sS, E.rr] = true) (hx : [t1, t2, t3, t4].all (fun t => decide (t ≠ vS)) = true) :
  (Code.seq (.region r1 #[⟨some t5, .move (.tmp x), y0, q0, e0, none⟩, ⟨some vS, .assign (.tmp t5), y1, q1, e1, none⟩] false) (.seq (.region r0 #[⟨some t1, .move (.tmp sS), y2, q2, e2, none⟩, ⟨some t2, .move (.tmp vS), y3, q3, e3, none⟩, ⟨some t3, .nilCheck (.tmp t1), y4, q4, e4, none⟩, ⟨some t4, .fieldAddr T (.tmp t3) idx, y5, q5, e5, none⟩, ⟨none, .store ty (.tmp t4) (.tmp t2), y6, q6, e6, none⟩] false) T0)).wp Tryz.prog Q a1 w1 := by
 obtain ⟨hm, hw, hr0, hnd⟩ := zaN hsl0
 simp only [qne, List.nodup_cons, not_or, List.nodup_nil, and_true, not_false_eq_true] at hw hnd
 obtain ⟨q1, q2, q3, q4, d, v, q5, q6⟩ := hq
 have hN : a1.tmps.size = E.N := q1.size.trans hB.ok.1
 refine qsr fun K hK => ?_
 refine zal ?_
 refine zah ?_
 rw [zaf, zaf, zad (by rw [hN]; exact hw.1.2.1), q5]
 refine zaa (hK _ _ ?_)
 refine wp_seq (wp_mono (wp_put hB hP ⟨(q1.put hw.1.1 _).put hw.2.1 _, q2, q3, q4, d, v, zad (by rw [zag, hN]; exact hw.2.2.1), q6⟩ hf hF hsl hx) ?_)
 intro e a2 w2 hq2
 cases e <;> try exact hq2.elim
 ·exact hn a2 w2 hq2
 ·exact hr a2 w2 hq2
theorem rl_restT (hf : fs[i]? = some (.mk .list a1 a2 a3 a4 a5 of sub)) (hB2 : (roomB Tryz.prog ty (eszR E of sub) && intTB Tryz.prog ti && sliceB Tryz.prog ty (eSz Tryz.prog ty) && decide (6 < E.N)) = true)
  (hF : (decide (fsz E.fl (.mk .list a1 a2 a3 a4 a5 of sub) = 1) && zbb Tryz.prog T idx (k0 + foff E.fl fs i) 1 && sizeB Tryz.prog tyV 1) = true) (hz : ∀ e, (Tryz.prog).underlying ty = some (.slice e) → zeroB Tryz.prog e z) (hzs : z.cells.size = eszR E of sub)
  (hOk : zaY Tryz.prog 69) (hCo : zaY Tryz.prog 70) (hbody : ElC E mB aS iS (eszR E of sub) (oneR E of sub) (repR E of sub) z.cells.toList body)
  (s1 : rsl E iS [t1, t2, t3] [E.rr, aS, lS] = true) (s2 : rsl E iS [t4, t5] [aS, lS] = true) (s3 : rsl E iS [t6, t7, t8, t9, t10] [aS, lS] = true) (s4 : rsl E mB [u1, u2, u3, u4, u5] [E.rr, aS, iS, lS] = true) (s5 : rsl E iS [iS] [aS, lS] = true) (s6 : rsl E m [t11, vS] [] = true) (s7 : rsl E m [v1, v2, v3, v4] [sS, E.rr] = true)
  (s8 : [v1, v2, v3, v4].all (fun t => decide (t ≠ vS)) = true) (s9 : rsl E m [aS] [] = true) (s10 : (decide (m ≤ iS) && decide (aS ≠ lS)) = true)
  {a0 a : Act} {w0 w : World} {O : Nat → Prop} {R B p : Nat} {st : Option Bs} {s : S} {oa : Option Addr} {L : Int} (hB0 : RB E a0 w0 O R st) (hP0 : RP E sS k0 fs a0 w0 O R B p s) (hk : zar (RS m) a0 a) (hc : Chg (fun k => k = R) w0 w)
  (hrs : RdS w (fun g => ¬ O g) R ((st.bind (rLen E.flex)).map (·.2))) (hll : stLen ((st.bind (rLen E.flex)).map (·.2)) ≤ stLen st) (gl : get a lS = .int .i32 L) (hL : ∀ y, st.bind (rLen E.flex) = some y → L = y.1) (ga : get a aS = .slice oa 0 0)
  (hnil : ∀ y, st.bind (rLen E.flex) = some y → (if 0 < y.1 then false else oa.isNone) = nilArr a3 E.ver y.1) {Q : Exit → Act → World → Prop}
  (hnQ : ∀ a' w', RdQ E m k0 fs (i + 1) (zbj i (decF E.flex E.ver (.mk .list a1 a2 a3 a4 a5 of sub))) a0 w0 O R B p st s .normal a' w' → T0.wp Tryz.prog Q a' w') (hrQ : ∀ a' w', RdQ E m k0 fs (i + 1) (zbj i (decF E.flex E.ver (.mk .list a1 a2 a3 a4 a5 of sub))) a0 w0 O R B p st s .ret a' w' → Q .ret a' w') :
  (Code.seq (.seq (.region r0 #[⟨some t1, .call { callee := .value (.func 69), args := #[.tmp E.rr], argTypes := us }, y0, q0, e0, none⟩, ⟨some t2, .unOp .not uo (.tmp t1), y1, q1, e1, none⟩] false)
    (.cond (.tmp t2) (.seq (.region r1 #[⟨some t3, .call { callee := .value (.func 70), args := #[.tmp E.rr], argTypes := us2 }, y2, q2, e2, none⟩, ⟨some 6, .assign (.tmp t3), y3, q3, e3, none⟩] false) .ret) .skip))
   (.seq (.region r2 #[⟨some t4, .move (.tmp aS), y4, q4, e4, none⟩, ⟨some t5, .slice ty (.tmp t4) none (some (.const (.int .i64 0))) none, y5, q5, e5, none⟩, ⟨some aS, .assign (.tmp t5), y6, q6, e6, none⟩] false)
   (.seq (.seq (.region r3 #[⟨some t6, .move (.tmp lS), y7, q7, e7, none⟩, ⟨some t7, .binOp .gtr ug (.tmp t6) (.const (.int .i32 0)) ug, y8, q8, e8, none⟩] false)
     (.cond (.tmp t7) (.region r4 #[⟨some t8, .move (.tmp aS), y9, q9, e9, none⟩, ⟨some t9, .move (.tmp lS), y10, q10, e10, none⟩, ⟨some t10, .call { callee := .builtin .append, args := #[.tmp t8, .tmp t9], argTypes := #[ty, ti] }, y11, q11, e11, none⟩, ⟨some aS, .assign (.tmp t10), y12, q12, e12, none⟩] false) .skip))
   (.seq (.seq (.region r5 #[⟨some iS, .assign (.const (.int .i32 0)), y13, q13, e13, none⟩] false) (.block b1 (.loop (.seq (.seq (.region r6 #[⟨some u1, .move (.tmp iS), y14, q14, e14, none⟩, ⟨some u2, .move (.tmp lS), y15, q15, e15, none⟩, ⟨some u3, .binOp .lss ua (.tmp u1) (.tmp u2) ua, y16, q16, e16, none⟩] false) (.cond (.tmp u3) .skip (.exit b1)))
     (.seq (.block b2 body) (.region r7 #[⟨some u4, .move (.tmp iS), y17, q17, e17, none⟩, ⟨some u5, .binOp .add ua (.tmp u4) (.const (.int .i32 1)) ua, y18, q18, e18, none⟩, ⟨some iS, .assign (.tmp u5), y19, q19, e19, none⟩] false))))))
    (.seq (.region r8 #[⟨some t11, .move (.tmp aS), y20, q20, e20, none⟩, ⟨some vS, .assign (.tmp t11), y21, q21, e21, none⟩] false) (.seq (.region r9 #[⟨some v1, .move (.tmp sS), y22, q22, e22, none⟩, ⟨some v2, .move (.tmp vS), y23, q23, e23, none⟩, ⟨some v3, .nilCheck (.tmp v1), y24, q24, e24, none⟩, ⟨some v4, .fieldAddr T (.tmp v3) idx, y25, q25, e25, none⟩, ⟨none, .store tyV (.tmp v4) (.tmp v2), y26, q26, e26, none⟩] false) T0)))))).wp Tryz.prog Q a w := by
 simp only [Bool.and_eq_true, decide_eq_true_eq] at hB2 s10
 obtain ⟨⟨⟨hroom, hti⟩, hsl⟩, h6⟩ := hB2
 obtain ⟨hm, hw9, _, _⟩ := zaN s9
 obtain ⟨hmi, hw1, hr1, _⟩ := zaN s1
 obtain ⟨_, hw2, hr2, hnd2⟩ := zaN s2
 obtain ⟨_, hw3, hr3, hnd3⟩ := zaN s3
 simp only [qne, List.nodup_cons, not_or, List.nodup_nil, and_true, not_false_eq_true] at hw9 hw1 hr1 hw2 hr2 hnd2 hw3 hr3 hnd3
 have haN : aS < E.N := hw9.2.1
 have up : ∀ {a a' : Act}, zar (RS iS) a a' → zar (RS m) a a' := fun h => h.mono fun t ht => ⟨by have := ht.1; omega, ht.2⟩
 have hBa : RB E a w O R ((st.bind (rLen E.flex)).map (·.2)) := hB0.next hm hk hc (fun k h => by rw [h]; exact hB0.oR) hrs hll
 refine qsk fun K hK => ?_
 refine wp_ok hBa (by unfold rsl at s1 ⊢; simp only [Bool.and_eq_true, List.all_cons, List.all_nil] at s1 ⊢; exact ⟨⟨⟨s1.1.1.1, s1.1.1.2⟩, ⟨s1.1.2.1, trivial⟩⟩, s1.2⟩ : rsl E iS [t1, t2, t3] [E.rr] = true) (by simpa using h6) hOk hCo ?_ ?_
 rotate_left
 ·intro hbad a' hd hif
  have hn : st.bind (rLen E.flex) = none := by
   cases hh : st.bind (rLen E.flex) with
   | none => rfl
   | some y => rw [hh] at hbad; cases hbad
  refine hrQ _ _ ⟨hd, hif, ?_, hc.mono fun k _ h => by rw [h]; exact hB0.oR⟩
  cases st with
  | none => rfl
  | some bs =>
   rw [Option.bind_some] at hn ⊢
   unfold zbj
   rw [decF_listR, hn]; rfl
 intro hgood a1' hk1
 refine hK _ _ ?_
 clear hK K
 obtain ⟨bs, hst⟩ : ∃ bs, st = some bs := by cases st with | none => exact absurd rfl hgood | some bs => exact ⟨bs, rfl⟩
 subst hst
 obtain ⟨y, hy⟩ : ∃ y, rLen E.flex bs = some y := by
  cases hh : rLen E.flex bs with
  | none => rw [Option.bind_some, hh] at hgood; exact absurd rfl hgood
  | some y => exact ⟨y, rfl⟩
 obtain ⟨L', r⟩ := y
 have eL : L = L' := hL (L', r) (by rw [Option.bind_some]; exact hy)
 subst eL
 have hnil' := hnil (L, r) (by rw [Option.bind_some]; exact hy)
 rw [Option.bind_some, hy] at hrs hll
 change RdS w (fun g => ¬ O g) R (some r) at hrs
 change stLen (some r) ≤ stLen (some bs) at hll
 have hLr := rLen_le hy
 have hlim : r.length ≤ 1073741824 := Nat.le_trans hll hB0.lim
 have hN1 : a1'.tmps.size = E.N := hk1.size.trans hBa.ok.1
 have hkA : zar (RS m) a0 a1' := hk.trans (up hk1)
 have ga1 : get a1' aS = .slice oa 0 0 := (hk1.slot _ hr1.2.1).trans ga
 have gl1 : get a1' lS = .int .i32 L := (hk1.slot _ hr1.2.2).trans gl
 have nal : ¬ aS = lS := s10.2
 have nt : ∀ t, iS ≤ t → ¬ t = aS ∧ ¬ t = lS := fun t ht => by have := hr1.2.1.1; have := hr1.2.2.1; omega
 have ev : ∀ {d t : Nat} {a : Act} {v : Value}, d < a.tmps.size → get (a.put (some d) v) t = if d = t then v else get a t := fun h => get_put h
 refine qsr fun K hK => ?_
 refine zal ?_
 rw [zaf, ga1]
 have e5 : (a1'.put (some t4) (.slice oa 0 0)).eval (.tmp t4) = .slice oa 0 0 := by rw [zaf, zad (by rw [hN1]; exact hw2.1.2.1)]
 refine zaJ (by show slcOK none (some (.int .i64 0)) none ((a1'.put (some t4) (.slice oa 0 0)).eval (.tmp t4)) = true; rw [e5]; rfl) hsl ?_
 have e6 : pv Tryz.prog w (a1'.put (some t4) (.slice oa 0 0)).eval (.slice ty (.tmp t4) none (some (.const (.int .i64 0))) none) = .slice oa 0 0 := by
  show slcV (eSz Tryz.prog ty) none (some (.int .i64 0)) none ((a1'.put (some t4) (.slice oa 0 0)).eval (.tmp t4)) = _
  rw [e5]
  simp [slcV, optI]
 rw [e6]
 refine zah ?_
 rw [zaf, zad (by rw [zag, hN1]; exact hw2.2.2.1)]
 refine zaa (hK _ _ ?_)
 clear hK K e5 e6
 obtain ⟨a2', ha2⟩ : ∃ a2', a2' = ((a1'.put (some t4) (.slice oa 0 0)).put (some t5) (.slice oa 0 0)).put (some aS) (.slice oa 0 0) := ⟨_, rfl⟩
 rw [← ha2]
 have hN2 : a2'.tmps.size = E.N := by rw [ha2]; simp only [zag, hN1]
 have hkt4 : ¬ RS m t4 := fun h => by have := h.1; have := hw2.1.2.2; omega
 have hkt5 : ¬ RS m t5 := fun h => by have := h.1; have := hw2.2.2.2; omega
 have hkB : zar (RS m) a0 a2' := by rw [ha2]; exact ((hkA.put hkt4 _).put hkt5 _).put hw9.1 _
 have ga2 : get a2' aS = .slice oa 0 0 := by rw [ha2, zad (by simp only [zag, hN1]; exact haN)]
 have gl2 : get a2' lS = .int .i32 L := by rw [ha2, zae nal, zae (nt t5 hw2.2.2.2).2, zae (nt t4 hw2.1.2.2).2]; exact gl1
 clear ha2
 refine qsk fun K hK => ?_
 refine qsr fun K2 hK2 => ?_
 refine zal ?_
 rw [zaf, gl2]
 have e7 : (a2'.put (some t6) (.int .i32 L)).eval (.tmp t6) = .int .i32 L := by rw [zaf, zad (by rw [hN2]; exact hw3.1.2.1)]
 refine wl_gtr (by rw [e7]; rfl) ?_
 rw [e7]
 simp only [zai, cmp2]
 refine zaa (hK2 _ _ ?_)
 clear hK2 K2 e7
 have hkt : ∀ t, iS ≤ t → ¬ RS m t := fun t ht h => by have := h.1; omega
 obtain ⟨a3', ha3⟩ : ∃ a3', a3' = ((a2'.put (some t6) (.int .i32 L)).put (some t7) (.bool (decide (0 < L)))) := ⟨_, rfl⟩
 rw [← ha3]
 have hN3 : a3'.tmps.size = E.N := by rw [ha3]; simp only [zag, hN2]
 have hkC : zar (RS m) a0 a3' := by rw [ha3]; exact (hkB.put (hkt t6 hw3.1.2.2) _).put (hkt t7 hw3.2.1.2.2) _
 have ga3 : get a3' aS = .slice oa 0 0 := by rw [ha3, zae (nt t7 hw3.2.1.2.2).1, zae (nt t6 hw3.1.2.2).1]; exact ga2
 have gl3 : get a3' lS = .int .i32 L := by rw [ha3, zae (nt t7 hw3.2.1.2.2).2, zae (nt t6 hw3.1.2.2).2]; exact gl2
 have g7 : get a3' t7 = .bool (decide (0 < L)) := by rw [ha3, zad (by rw [zag, hN2]; exact hw3.2.1.2.1)]
 clear ha3
 by_cases hpos : 0 < L
 ·rw [decide_eq_true hpos] at g7
  rw [if_pos hpos] at hnil'
  refine wp_cond_true (by rw [zaf]; exact g7) ?_
  obtain ⟨n, hn⟩ : ∃ n : Nat, L = n := ⟨L.toNat, by omega⟩
  subst hn
  refine zax ?_
  refine zal ?_
  rw [zaf, ga3]
  refine zal ?_
  rw [zaf, zae (nt t8 hw3.2.2.1.2.2).2, gl3]
  refine wl_room (k := .i32) (n := n) (oa := oa) hroom hti hz hzs (by rw [zaf, zae (fun e => hnd3.2.2.1.1 e.symm), zad (by rw [hN3]; exact hw3.2.2.1.2.1)]) (by rw [zaf, zad (by rw [zag, hN3]; exact hw3.2.2.2.1.2.1)]) (by omega) (by omega) ?_
  intro w1 cap cs Tb hc1 hb1 hlen1 hseg1 hs1
  refine zah ?_
  rw [zaf, zad (by simp only [zag, hN3]; exact hw3.2.2.2.2.2.1)]
  refine zaa (hK _ _ ?_)
  clear hK K
  obtain ⟨a4', ha4⟩ : ∃ a4', a4' = ((((a3'.put (some t8) (.slice oa 0 0)).put (some t9) (.int .i32 n)).put (some t10) (.slice (some ⟨w.heap.size, 0, none⟩) n cap)).put (some aS) (.slice (some ⟨w.heap.size, 0, none⟩) n cap)) := ⟨_, rfl⟩
  rw [← ha4]
  have hN4 : a4'.tmps.size = E.N := by rw [ha4]; simp only [zag, hN3]
  have hkD : zar (RS m) a0 a4' := by rw [ha4]; exact (((hkC.put (hkt t8 hw3.2.2.1.2.2) _).put (hkt t9 hw3.2.2.2.1.2.2) _).put (hkt t10 hw3.2.2.2.2.2.2) _).put hw9.1 _
  have ga4 : get a4' aS = .slice (some ⟨w.heap.size, 0, none⟩) n cap := by rw [ha4, zad (by simp only [zag, hN3]; exact haN)]
  have gl4 : get a4' lS = .int .i32 n := by rw [ha4, zae nal, zae (nt t10 hw3.2.2.2.2.2.2).2, zae (nt t9 hw3.2.2.2.1.2.2).2, zae (nt t8 hw3.2.2.1.2.2).2]; exact gl3
  clear ha4
  have hltR : R < w.heap.size := hrs.lt
  have hgE : gE ≠ w.heap.size := by
   intro e
   obtain ⟨_, _, _, h2⟩ := hBa.err
   have : w.heap[gE]? = none := by rw [Array.getElem?_eq_none]; omega
   simp [ldOK, World.cell?, this] at h2
  have hB1 : RB E a4' w1 (fun g => O g ∨ g = w.heap.size) R (some r) := by
   have hx := hB0.next hm hkD (hc.trans (hc1.mono fun _ _ h => h.elim) fun _ _ h => h) (fun k h => by rw [h]; exact hB0.oR) (hrs.stay (zbl.of hc1 fun _ _ _ h => h) (hc1.block R hltR fun h => h)) hll
   refine ⟨hx.ok, hx.rd, hrs.stay ⟨fun k hk hg => ⟨hc1.block k hk fun h => h, fun h => ?_⟩⟩ (hc1.block R hltR fun h => h), .inl hx.oR, fun h => ?_, hx.err, fun k hk h => ?_, hx.lim⟩
   ·rcases h with h | h
    ·exact hg h
    ·omega
   ·rcases h with h | h
    ·exact hx.oE h
    ·exact hgE h
   ·rcases h with h | h
    ·exact hx.new k hk h
    ·omega
  have hle : eszR E of sub = eszR E of sub := rfl
  refine qsk fun K hK => ?_
  refine rd_loop (m := mB) (repR_stay E of sub) hbody s4 s5 hB1 (.inr rfl) (by omega) ga4 gl4 (by omega) (by omega) hb1 hlen1 hseg1 (fun a5' w2 hinv => ?_) (fun a5' w2 hfl => ?_)
  ·refine hK _ _ ?_
   clear hK K
   obtain ⟨j1, j2, j3, j4, cs2, xs, j5, j6, j7, j8, _, j9⟩ := hinv
   have hcw : Chg (fun k => k = R) w w2 := (hc1.mono (Y := fun k => k = R) fun _ _ h => h.elim).trans j2 fun k hk h => by rcases h with h | h; exact h; omega
   have hst2 : zbl w2 w2 (fun g => ¬ (O g ∨ g = w.heap.size)) (fun g => ¬ O g) := zbl.sub fun k _ h => fun h2 => h (.inl h2)
   refine wp_put2T hnQ hrQ hB0 hP0 (list_rv (oa := some ⟨w.heap.size, 0, none⟩) (cap := cap) (xs := xs) (st' := none) (hkD.trans (up j1)) (hc.trans hcw fun _ _ h => h) hy hll (by rw [Int.toNat_natCast]; exact j3.stay hst2 rfl) (by rw [Int.toNat_natCast]; exact j4) (by rw [j7]; exact (j1.slot _ hr1.2.1).trans ga4) (by omega) (fun h => by cases h) ?_ (.inr ⟨w.heap.size, cs2, Tb, rfl, hBa.new _ (Nat.le_refl _), j5, by rw [j7]; exact j6, fun k x hx => repR_stay E of sub _ _ _ _ _ _ hst2 (j8 k x hx)⟩) (by rw [Int.toNat_natCast]; exact fun y h => j9 y (by rw [Option.bind_some]; exact h))) hf hF s6 s7 s8
   rw [← hnil']; rfl
  ·obtain ⟨f1, f2, f3, f4⟩ := hfl
   have hcw : Chg O w0 w2 := ((hc.mono fun k _ h => by rw [h]; exact hB0.oR : Chg O w0 w).trans hc1 fun _ _ h => h.elim).trans f4 fun k hk h => by
    rcases h with h | h
    ·exact h
    ·have := hc.size; omega
   refine hrQ _ _ ⟨f1, f2, ?_, hcw⟩
   rw [Option.bind_some] at f3 ⊢
   unfold zbj
   rw [decF_listR, hy, Option.bind_some, Int.toNat_natCast, f3]; rfl
 ·rw [decide_eq_false hpos] at g7
  rw [if_neg hpos] at hnil'
  refine wp_cond_false (by rw [zaf]; exact g7) ?_
  refine wp_skip (hK _ _ ?_)
  clear hK K
  refine qsk fun K hK => ?_
  refine rd_loop0 (m := mB) s4 s5 hN3 gl3 (by omega) fun a5' hk5 => ?_
  refine hK _ _ ?_
  clear hK K
  have h0 : L.toNat = 0 := by omega
  refine wp_put2T hnQ hrQ hB0 hP0 (list_rv (oa := oa) (cap := 0) (xs := []) (st' := none) (hkC.trans (up hk5)) hc hy hll (by rw [h0]; exact hrs) (by rw [h0]; exact Nat.le_refl _) ((hk5.slot _ hr1.2.1).trans ga3) (by simp) (fun _ => rfl) hnil' (.inl rfl) (by rw [h0]; intro y h; simp only [rMany, Option.some.injEq] at h; rw [← h])) hf hF s6 s7 s8
theorem it_listX (hf : fs[i]? = some (.mk .list a1 a2 a3 a4 a5 of sub)) (hF : (decide (fsz E.fl (.mk .list a1 a2 a3 a4 a5 of sub) = 1) && zbb Tryz.prog T idx (k0 + foff E.fl fs i) 1 && scalB Tryz.prog tyV) = true) (hl : RnC E lS lS cl)
  (s1 : rsl E m [w1', w2', w3', w4', vS, w5', aS, lS] [sS, E.rr] = true) (s2 : (decide (aS < lS) && decide (aS ≠ 6) && decide (m ≤ lS)) = true)
  {a : Act} {w : World} {O : Nat → Prop} {R B p : Nat} {st : Option Bs} {s : S} {Q : Exit → Act → World → Prop} (hB : RB E a w O R st) (hP : RP E sS k0 fs a w O R B p s) (hfr : zbe fs i s)
  (h : ∀ {a' : Act} {w' : World} {L : Int}, zar (RS m) a a' → Chg (fun k => k = R) w w' →
   RdS w' (fun g => ¬ O g) R ((st.bind (rLen E.flex)).map (·.2)) → stLen ((st.bind (rLen E.flex)).map (·.2)) ≤ stLen st → get a' lS = .int .i32 L → (∀ y, st.bind (rLen E.flex) = some y → L = y.1) → get a' aS = .slice none 0 0 →
   cr.wp Tryz.prog Q a' w') :
  (Code.seq (.region r0 #[⟨some w1', .move (.tmp sS), y0, q0, e0, none⟩, ⟨some w2', .nilCheck (.tmp w1'), y1, q1, e1, none⟩, ⟨some w3', .fieldAddr T (.tmp w2') idx, y2, q2, e2, none⟩, ⟨some w4', .load tyV (.tmp w3'), y3, q3, e3, none⟩, ⟨some vS, .assign (.tmp w4'), y4, q4, e4, none⟩] false)
    (.seq (.region r1 #[⟨some w5', .move (.tmp vS), y5, q5, e5, none⟩, ⟨some aS, .assign (.tmp w5'), y6, q6, e6, none⟩] false)
     (.seq (.region r2 #[⟨some lS, .assign (.const (.int .i32 0)), y7, q7, e7, none⟩] false) (.seq cl cr)))).wp Tryz.prog Q a w := by
 simp only [Bool.and_eq_true, decide_eq_true_eq] at hF s2
 obtain ⟨⟨f1, f2⟩, f3⟩ := hF
 obtain ⟨hm, hw, hr, hnd⟩ := zaN s1
 have hnr := nodup_rev hnd
 simp only [List.reverse_cons, List.reverse_nil, List.nil_append, List.cons_append, List.mem_cons, List.not_mem_nil, or_false, List.nodup_cons, not_or, List.nodup_nil, and_true, not_false_eq_true] at hnr
 simp only [qne, List.nodup_cons, not_or, List.nodup_nil, and_true, not_false_eq_true] at hw hnd hr
 have hN := hB.ok.1
 have ev : ∀ {d t : Nat} {a : Act} {v : Value}, d < a.tmps.size → get (a.put (some d) v) t = if d = t then v else get a t := fun h => get_put h
 obtain ⟨d', cs, Tb, k1, k2, k3, k4⟩ := hP.at_.field hf
 have hd := hfr i _ (Nat.le_refl _) hf
 rw [hd] at k1
 have hdf : dfltF (.mk .list a1 a2 a3 a4 a5 of sub) = .arr true [] := by unfold dfltF; rfl
 rw [hdf] at k1
 cases k1
 rw [f1] at k3 k4
 have hv : cs[p + k0 + foff E.fl fs i]? = some (cs[p + k0 + foff E.fl fs i]'(by omega)) := by simp
 obtain ⟨val, hval⟩ : ∃ val, cs[p + k0 + foff E.fl fs i]? = some val := ⟨_, hv⟩
 have hseg : (cs.drop (p + k0 + foff E.fl fs i)).take 1 = [val] := by
  rw [List.drop_eq_getElem_cons (by omega), List.take_succ_cons, List.take_zero]
  congr 1
  have := List.getElem?_eq_some_iff.1 hval
  exact this.2
 rw [hseg] at k4
 have hval2 : val = .slice none 0 0 := by
  unfold RepF at k4
  obtain ⟨oa, cap, g1, ⟨g2, g3⟩, _⟩ := k4
  simp only [List.cons.injEq, and_true] at g1
  cases oa with
  | none => rw [g1, g3 rfl]; rfl
  | some _ => cases g2
 subst hval2
 refine qsr fun K hK => ?_
 refine zal ?_
 rw [zaf, hP.pt]
 refine zaS (p := ⟨B, p, none⟩) (by simp only [zaf, ev, zag, hN, hw, hnd, hnr, if_true, if_false]) ?_
 refine zaP (b := B) (o := p) f2 (by simp only [zaf, ev, zag, hN, hw, hnd, hnr, if_true, if_false]) ?_
 refine zaK (b := B) (o := p + (k0 + foff E.fl fs i)) f3 (by simp only [zaf, ev, zag, hN, hw, hnd, hnr, if_true, if_false]) k2 (v := .slice none 0 0) (by rw [← Nat.add_assoc]; exact hval) ?_
 refine zah ?_
 simp only [zaf, ev, zag, hN, hw, if_true]
 refine zaa (hK _ _ ?_)
 clear hK K
 refine qsr fun K hK => ?_
 refine zal ?_
 simp only [zaf, ev, zag, hN, hw, if_true]
 refine zah ?_
 simp only [zaf, ev, zag, hN, hw, if_true]
 refine zaa (hK _ _ ?_)
 clear hK K
 refine qsr fun K hK => ?_
 refine zah ?_
 simp only [zai]
 refine zaa (hK _ _ ?_)
 clear hK K
 obtain ⟨a8, ha8⟩ : ∃ a8, a8 = ((((((((a.put (some w1') (.pointer (some ⟨B, p, none⟩))).put (some w2') (.pointer (some ⟨B, p, none⟩))).put (some w3') (.pointer (some ⟨B, p + (k0 + foff E.fl fs i), none⟩))).put (some w4') (.slice none 0 0)).put (some vS) (.slice none 0 0)).put (some w5') (.slice none 0 0)).put (some aS) (.slice none 0 0)).put (some lS) (.int .i32 0)) := ⟨_, rfl⟩
 rw [← ha8]
 have hk8 : zar (RS m) a a8 := by
  rw [ha8]
  exact ((((((((zar.refl _ _).put hw.1.1 _).put hw.2.1.1 _).put hw.2.2.1.1 _).put hw.2.2.2.1.1 _).put hw.2.2.2.2.1.1 _).put hw.2.2.2.2.2.1.1 _).put hw.2.2.2.2.2.2.1.1 _).put hw.2.2.2.2.2.2.2.1 _
 have ga8 : get a8 aS = .slice none 0 0 := by rw [ha8, zae (by omega), zad (by simp only [zag, hN]; exact hw.2.2.2.2.2.2.1.2.1)]
 clear ha8
 have hB8 := hB.next hm hk8 (Chg.refl (fun _ => False) _) (fun _ h => h.elim) hB.rs (Nat.le_refl _)
 refine wp_seq (wp_mono (hl a8 w O R st hB8) ?_)
 intro e a9 w9 hq
 cases e <;> try exact hq.elim
 obtain ⟨q1, q2, q3, q4, L, q5, q6⟩ := hq
 exact h (hk8.trans (q1.mono fun t ht => ⟨by have := ht.1; omega, ht.2⟩)) q2 q3 q4 q5 q6 ((q1.slot _ ⟨s2.1.1, s2.1.2⟩).trans ga8)
theorem it_list (hf : fs[i]? = some (.mk .list a1 a2 a3 a4 a5 of sub))
  (hB2 : (decide (a3 < 0) && roomB Tryz.prog ty (eszR E of sub) && intTB Tryz.prog ti && sliceB Tryz.prog ty (eSz Tryz.prog ty) && decide (6 < E.N) && decide (fsz E.fl (.mk .list a1 a2 a3 a4 a5 of sub) = 1) && zbb Tryz.prog T idx (k0 + foff E.fl fs i) 1 && sizeB Tryz.prog ty 1 && scalB Tryz.prog ty) = true)
  (hz : ∃ z : Value, (∀ e, (Tryz.prog).underlying ty = some (.slice e) → zeroB Tryz.prog e z) ∧ z.cells.size = eszR E of sub ∧ ElC E mB aS iS (eszR E of sub) (oneR E of sub) (repR E of sub) z.cells.toList body)
  (hOk : zaY Tryz.prog 69) (hCo : zaY Tryz.prog 70) (hl : RnC E lS lS cl)
  (hS : (rsl E m [w1', w2', w3', w4', vS, w5', aS, lS] [sS, E.rr] && (decide (aS < lS) && decide (aS ≠ 6) && decide (m ≤ lS)) && rsl E iS [t1, t2, t3] [E.rr, aS, lS] && rsl E iS [t4, t5] [aS, lS] && rsl E iS [t6, t7, t8, t9, t10] [aS, lS] &&
   rsl E mB [u1, u2, u3, u4, u5] [E.rr, aS, iS, lS] && rsl E iS [iS] [aS, lS] && rsl E m [t11, vS] [] && rsl E m [v1, v2, v3, v4] [sS, E.rr] && [v1, v2, v3, v4].all (fun t => decide (t ≠ vS)) && rsl E m [aS] [] && (decide (m ≤ iS) && decide (aS ≠ lS))) = true) :
  ∀ (a : Act) (w : World) (O : Nat → Prop) (R B p : Nat) (st : Option Bs) (s : S) (Q : Exit → Act → World → Prop), RB E a w O R st → RP E sS k0 fs a w O R B p s → zbe fs i s →
   (∀ a' w', RdQ E m k0 fs (i + 1) (zbj i (decF E.flex E.ver (.mk .list a1 a2 a3 a4 a5 of sub))) a w O R B p st s .normal a' w' → T0.wp Tryz.prog Q a' w') → (∀ a' w', RdQ E m k0 fs (i + 1) (zbj i (decF E.flex E.ver (.mk .list a1 a2 a3 a4 a5 of sub))) a w O R B p st s .ret a' w' → Q .ret a' w') →
   (Code.seq (.region r10 #[⟨some w1', .move (.tmp sS), y0, q0, e0, none⟩, ⟨some w2', .nilCheck (.tmp w1'), y1, q1, e1, none⟩, ⟨some w3', .fieldAddr T (.tmp w2') idx, y2, q2, e2, none⟩, ⟨some w4', .load ty (.tmp w3'), y3, q3, e3, none⟩, ⟨some vS, .assign (.tmp w4'), y4, q4, e4, none⟩] false)
    (.seq (.region r11 #[⟨some w5', .move (.tmp vS), y5, q5, e5, none⟩, ⟨some aS, .assign (.tmp w5'), y6, q6, e6, none⟩] false)
     (.seq (.region r12 #[⟨some lS, .assign (.const (.int .i32 0)), y7, q7, e7, none⟩] false) (.seq cl
   (.seq (.seq (.region r0 #[⟨some t1, .call { callee := .value (.func 69), args := #[.tmp E.rr], argTypes := us }, y8, q8, e8, none⟩, ⟨some t2, .unOp .not uo (.tmp t1), y9, q9, e9, none⟩] false)
    (.cond (.tmp t2) (.seq (.region r1 #[⟨some t3, .call { callee := .value (.func 70), args := #[.tmp E.rr], argTypes := us2 }, y10, q10, e10, none⟩, ⟨some 6, .assign (.tmp t3), y11, q11, e11, none⟩] false) .ret) .skip))
   (.seq (.region r2 #[⟨some t4, .move (.tmp aS), y12, q12, e12, none⟩, ⟨some t5, .slice ty (.tmp t4) none (some (.const (.int .i64 0))) none, y13, q13, e13, none⟩, ⟨some aS, .assign (.tmp t5), y14, q14, e14, none⟩] false)
   (.seq (.seq (.region r3 #[⟨some t6, .move (.tmp lS), y15, q15, e15, none⟩, ⟨some t7, .binOp .gtr ug (.tmp t6) (.const (.int .i32 0)) ug, y16, q16, e16, none⟩] false)
     (.cond (.tmp t7) (.region r4 #[⟨some t8, .move (.tmp aS), y17, q17, e17, none⟩, ⟨some t9, .move (.tmp lS), y18, q18, e18, none⟩, ⟨some t10, .call { callee := .builtin .append, args := #[.tmp t8, .tmp t9], argTypes := #[ty, ti] }, y19, q19, e19, none⟩, ⟨some aS, .assign (.tmp t10), y20, q20, e20, none⟩] false) .skip))
   (.seq (.seq (.region r5 #[⟨some iS, .assign (.const (.int .i32 0)), y21, q21, e21, none⟩] false) (.block b1 (.loop (.seq (.seq (.region r6 #[⟨some u1, .move (.tmp iS), y22, q22, e22, none⟩, ⟨some u2, .move (.tmp lS), y23, q23, e23, none⟩, ⟨some u3, .binOp .lss ua (.tmp u1) (.tmp u2) ua, y24, q24, e24, none⟩] false) (.cond (.tmp u3) .skip (.exit b1)))
     (.seq (.block b2 body) (.region r7 #[⟨some u4, .move (.tmp iS), y25, q25, e25, none⟩, ⟨some u5, .binOp .add ua (.tmp u4) (.const (.int .i32 1)) ua, y26, q26, e26, none⟩, ⟨some iS, .assign (.tmp u5), y27, q27, e27, none⟩] false))))))
    (.seq (.region r8 #[⟨some t11, .move (.tmp aS), y28, q28, e28, none⟩, ⟨some vS, .assign (.tmp t11), y29, q29, e29, none⟩] false) (.seq (.region r9 #[⟨some v1, .move (.tmp sS), y30, q30, e30, none⟩, ⟨some v2, .move (.tmp vS), y31, q31, e31, none⟩, ⟨some v3, .nilCheck (.tmp v1), y32, q32, e32, none⟩, ⟨some v4, .fieldAddr T (.tmp v3) idx, y33, q33, e33, none⟩, ⟨none, .store ty (.tmp v4) (.tmp v2), y34, q34, e34, none⟩] false) T0)))))))))).wp Tryz.prog Q a w := by
 simp only [Bool.and_eq_true] at hB2 hS
 obtain ⟨⟨⟨⟨⟨⟨⟨⟨n1, n2⟩, n3⟩, n4⟩, n5⟩, n6⟩, n7⟩, n8⟩, n9⟩ := hB2
 obtain ⟨⟨⟨⟨⟨⟨⟨⟨⟨⟨⟨p1, p2⟩, p3⟩, p4⟩, p5⟩, p6⟩, p7⟩, p8⟩, p9⟩, p10⟩, p11⟩, p12⟩ := hS
 obtain ⟨z, hz1, hz2, hbody⟩ := hz
 have a3n : a3 < 0 := of_decide_eq_true n1
 intro a w O R B p st s Q hB hP hfr hn hr
 refine it_listX hf (by simp only [Bool.and_eq_true]; exact ⟨⟨n6, n7⟩, n9⟩) hl p1 (by simp only [Bool.and_eq_true]; exact p2) hB hP hfr ?_
 intro a' w' L hk hc hrs hll gl hL ga
 refine rl_restT hf (by simp only [Bool.and_eq_true]; exact ⟨⟨⟨n2, n3⟩, n4⟩, n5⟩) (by simp only [Bool.and_eq_true]; exact ⟨⟨n6, n7⟩, n8⟩) hz1 hz2 hOk hCo hbody p3 p4 p5 p6 p7 p8 p9 p10 p11 (by simp only [Bool.and_eq_true]; exact p12) hB hP hk hc hrs hll gl hL ga ?_ hn hr
 intro y _
 unfold nilArr
 rw [if_pos a3n]
 by_cases h : 0 < y.1
 ·rw [if_pos h]; exact (decide_eq_false (by omega)).symm
 ·rw [if_neg h]; exact (decide_eq_true (by omega)).symm
end
section
variable {r0 r1 r2 r3 r4 r5 : Nat}
variable {r6 r7 r8 r9 r10 r11 r12 r13 r14 : Nat}
variable {y40 y41 y42 y43 y44 y45 y46 y47 y48 y49 y50 y51 y52 y53 y54 : TypeId} {q40 q41 q42 q43 q44 q45 q46 q47 q48 q49 q50 q51 q52 q53 q54 : String} {e40 e41 e42 e43 e44 e45 e46 e47 e48 e49 e50 e51 e52 e53 e54 : Array Edge}
variable {E : REnv} {m mB sS k0 i I x y ys aS iS lS vS t1 t2 t3 t4 t5 t6 t7 t8 t9 t10 t11 t12 w1' w2' w3' w4' w5' u1 u2 u3 u4 u5 v1 v2 v3 v4 b1 b2 ug uo uc ui n1 n2 n3 n4 n5 n6 n7 un1 un2 : Nat} {fs sub : List Fld} {pre : S → Prop} {c body cl : Code} {us us2 us3 : Array TypeId} {fn : FuncId} {T ty ti idx ua : Nat} {a1 a2 a3 a4 a5 : Int} {of : K} {z : Value}
variable {z4 z5 : TypeId} {p4 p5 : String} {j4 j5 : Array Edge}
end
section
variable {r0 r1 r2 r3 r4 r5 : Nat}
variable {r6 r7 r8 r9 r10 r11 r12 : Nat}
variable {E : REnv} {m mB sS k0 i I x y ys t1 t2 t3 t4 t5 t6 : Nat} {fs sub : List Fld} {c : Code} {us : Array TypeId} {fn : FuncId} {T idx : Nat} {a1 a2 a3 a4 a5 : Int} {of : K}
end
section
variable {r0 r1 r2 r3 r4 r5 : Nat}
variable {E : REnv} {m x t1 : Nat} {us : Array TypeId} {a1 a2 a3 a4 a5 : Int} {of : K} {sub : List Fld}
end
section
variable {r0 r1 r2 r3 r4 r5 : Nat}
variable {E : REnv} {m x y t t1 t2 : Nat} {us : Array TypeId} {fn : FuncId} {sem : Bs → Option (Bs × Bs)} {c ca cb cu : Code} {a1 a2 a3 a4 a5 : Int} {of : K} {sub : List Fld}
end
section
variable {r0 r1 r2 r3 r4 r5 : Nat}
variable {r6 r7 r8 r9 r10 r11 r12 : Nat} {z5 : TypeId} {p5 : String} {j5 : Array Edge}
variable {E : REnv} {m sS k0 i x y ys t1 t2 t3 t4 t5 t6 u u1 u2 u3 u4 v1 v2 v3 v4 v5 v6 v7 : Nat} {fs sub : List Fld} {c : Code} {us us2 us3 : Array TypeId} {fn : FuncId} {T T2 idx tp : Nat} {a1 a2 a3 a4 a5 : Int} {of : K}
end
end Go.Proofs.YtnjjfpgpookjlaaGreatDoor
