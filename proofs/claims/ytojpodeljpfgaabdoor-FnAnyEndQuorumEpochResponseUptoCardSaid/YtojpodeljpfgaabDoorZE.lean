import Derived.Test.YtojpodeljpfgaabDoorZD
/-
What the proofs of the laws rest on, part ZE.
-/
namespace Go.Proofs.YtojpodeljpfgaabDoor
set_option linter.all false
open Go.RowKit
set_option maxRecDepth 10000
set_option maxHeartbeats 4000000
abbrev knE (E : REnv) : REnv := ⟨E.N, E.ver, E.flex, E.fl, E.rr, some (.map none)⟩
def RkC (E : REnv) (m sS k0 : Nat) (fs : List Fld) (I : Nat) (pre : S → Prop) (sem : Sem) (c : Code) : Prop :=
  ∀ (a : Act) (w : World) (O : Nat → Prop) (R B p : Nat) (st : Option Bs) (s : S), RB E a w O R st → RP (knE E) sS k0 fs a w O R B p s → pre s → c.wp Tryd.prog (RdQ E m k0 fs I sem a w O R B p st s) a w
def RkT (E : REnv) (m sS k0 : Nat) (fs : List Fld) (pre : S → Prop) (sem : Sem) (c : Code) : Prop :=
  ∀ (a : Act) (w : World) (O : Nat → Prop) (R B p : Nat) (st : Option Bs) (s : S), RB E a w O R st → RP (knE E) sS k0 fs a w O R B p s → pre s → c.wp Tryd.prog (RtQ E m k0 fs sem w O R B p st s) a w
theorem AtE.ofK {E : REnv} {w : World} {O : Nat → Prop} {fs : List Fld} {ds : List D} {vs : List Value} (hfl : E.fl = true) (h : repSB E.fl fs ds vs = true) :
    ∃ v1 v2, vs = v1 ++ v2 ∧ RepL w (fun g => ¬ O g) E.fl fs ds v1 ∧ TgX (knE E) w O [] v2 := by
  unfold repSB at h
  simp only [Bool.and_eq_true] at h
  obtain ⟨h1, h2⟩ := h
  refine ⟨_, _, (List.take_append_drop (lsz E.fl fs) vs).symm, repLB_out h1, ?_⟩
  rw [if_pos hfl] at h2
  split at h2
  · rename_i hd; rw [hd]; exact ⟨rfl, hfl⟩
  · cases h2
section
variable {E : REnv} {m sS k0 I i : Nat} {fs : List Fld} {pre : S → Prop} {sem tl : Sem} {c c1 c2 : Code} {f : Fld}
theorem rdx_mono {pre' : S → Prop} {sem' : Sem} (h : RkC E m sS k0 fs I pre' sem' c) (hp : ∀ s, pre s → pre' s) (he : ∀ s bs, pre s → s.ds.length = fs.length → sem s bs = sem' s bs) : RkC E m sS k0 fs I pre sem c := by
  intro a w O R B p st s hB hP hpre
  have hlen := hP.at_.len
  refine wp_mono (h a w O R B p st s hB hP (hp s hpre)) ?_
  intro e a1 w1 hq
  have hsem : st.bind (sem s) = st.bind (sem' s) := by
    cases st with
    | none => rfl
    | some bs => exact he s bs hpre hlen
  cases e <;> try exact hq.elim
  · obtain ⟨hk, hc, hr, st1, s1, hs1, ha1, hstp, hl, hI'⟩ := hq
    exact ⟨hk, hc, hr, st1, s1, hs1, ha1, by unfold Stp at hstp ⊢; rw [hsem]; exact hstp, hl, hI'⟩
  · obtain ⟨q1, q2, q3, q4⟩ := hq
    exact ⟨q1, q2, by rw [hsem]; exact q3, q4⟩
theorem rtx_mono {pre' : S → Prop} {sem' : Sem} (h : RkT E m sS k0 fs pre' sem' c) (hp : ∀ s, pre s → pre' s) (he : ∀ s bs, pre s → s.ds.length = fs.length → sem s bs = sem' s bs) : RkT E m sS k0 fs pre sem c := by
  intro a w O R B p st s hB hP hpre
  have hlen := hP.at_.len
  refine wp_mono (h a w O R B p st s hB hP (hp s hpre)) ?_
  intro e a1 w1 hq
  have hsem : st.bind (sem s) = st.bind (sem' s) := by
    cases st with
    | none => rfl
    | some bs => exact he s bs hpre hlen
  cases e <;> try exact hq.elim
  unfold RtQ at hq ⊢
  rw [hsem]; exact hq
theorem rdx_next (hf : fs[i]? = some f) (hsl : rsl E m [] [sS] = true) (hI : decide (i + 1 ≤ I) = true) (h1 : RdC ⟨E.N, E.ver, E.flex, E.fl, E.rr, some (.map none)⟩ m sS k0 fs (i + 1) (Fresh fs i) (semFld ⟨E.N, E.ver, E.flex, E.fl, E.rr, some (.map none)⟩ f i) c1) (h2 : RkC E m sS k0 fs I (Fresh fs (i + 1)) (semL E fs (i + 1) tl) c2) :
    RkC E m sS k0 fs I (Fresh fs i) (semL E fs i tl) (.seq c1 c2) := by
  replace h1 : RdC (knE E) m sS k0 fs (i + 1) (Fresh fs i) (semFld E f i) c1 := h1
  obtain ⟨hm, hw, hr, hnd⟩ := zau hsl
  simp only [List.mem_cons, List.not_mem_nil, or_false, forall_eq] at hr
  have hI := of_decide_eq_true hI
  intro a w O R B p st s hB hP hpre
  have hlen := hP.at_.len
  have hsem : st.bind (semL E fs i tl s) = (st.bind (semFld E f i s)).bind fun x => semL E fs (i + 1) tl x.1 x.2 := by
    cases st with
    | none => rfl
    | some bs => exact semL_step hf hpre hlen
  refine wp_seq (wp_mono (h1 a w O R B p st s (hB.st _) hP hpre) ?_)
  intro e a1 w1 hq
  cases e <;> try exact hq.elim
  · obtain ⟨hk, hc, hrs, st1, s1, hs1, ha1, hstp, hl, hI1⟩ := hq
    have hB1 := hB.next hm hk hc (fun k hk => by rcases hk with rfl | rfl; exact hB.oR; exact hP.oB) hs1 hl
    have hP1 : RP (knE E) sS k0 fs a1 w1 O R B p s1 := ⟨(hk.slot _ hr).trans hP.pt, ha1, hP.oB, hP.ne⟩
    refine wp_mono (h2 a1 w1 O R B p st1 s1 hB1 hP1 (hpre.on (by omega) hI1)) ?_
    intro e a2 w2 hq
    cases e <;> try exact hq.elim
    · obtain ⟨hk2, hc2, hr2, st2, s2, hs2, ha2, hstp2, hl2, hI2'⟩ := hq
      refine ⟨hk.trans hk2, hc.trans hc2 fun _ _ h => h, hrs.trans hr2, st2, s2, hs2, ha2, ?_, Nat.le_trans hl2 hl, fun j hj => (hI2' j (by omega)).trans (hI1 j (by omega))⟩
      unfold Stp at hstp hstp2 ⊢
      rw [hsem]
      cases h : st.bind (semFld E f i s) with
      | none =>
        rw [h] at hstp
        subst hstp
        exact hstp2
      | some y =>
        rw [h] at hstp
        obtain ⟨rfl, rfl⟩ := hstp
        exact hstp2
    · obtain ⟨q1, q2, q3, q4⟩ := hq
      refine ⟨q1, q2, ?_, (hc.mono fun k _ hk => by rcases hk with rfl | rfl; exact hB.oR; exact hP.oB : Chg O w w1).trans q4 fun _ _ h => h⟩
      rw [hsem]
      unfold Stp at hstp
      cases h : st.bind (semFld E f i s) with
      | none => rfl
      | some y =>
        rw [h] at hstp
        obtain ⟨rfl, rfl⟩ := hstp
        exact q3
  · obtain ⟨q1, q2, q3, q4⟩ := hq
    refine ⟨q1, q2, ?_, q4⟩
    rw [hsem, q3]; rfl
theorem rdx_tagged (hf : fs[i]? = some f) (ht : decide (0 ≤ f.tag) = true) (h : RkC E m sS k0 fs I (Fresh fs (i + 1)) (semL E fs (i + 1) tl) c) : RkC E m sS k0 fs I (Fresh fs i) (semL E fs i tl) c := by
  refine rdx_mono h (fun _ h => h.up (by omega)) fun s bs hfr hlen => ?_
  rw [semL_step hf hfr hlen]
  unfold semFld
  have := of_decide_eq_true ht
  rw [if_neg (by simp; omega)]
  rfl
theorem rdx_end (hl : decide (fs.length ≤ i) = true) (h : RkC E m sS k0 fs I (fun _ => True) tl c) : RkC E m sS k0 fs I (Fresh fs i) (semL E fs i tl) c :=
  rdx_mono h (fun _ _ => trivial) fun s bs _ hlen => semL_end (of_decide_eq_true hl) hlen
theorem rtx_next (hf : fs[i]? = some f) (hsl : rsl E m [] [sS] = true) (h1 : RdC ⟨E.N, E.ver, E.flex, E.fl, E.rr, some (.map none)⟩ m sS k0 fs (i + 1) (Fresh fs i) (semFld ⟨E.N, E.ver, E.flex, E.fl, E.rr, some (.map none)⟩ f i) c1) (h2 : RkT E m sS k0 fs (Fresh fs (i + 1)) (semL E fs (i + 1) tl) c2) :
    RkT E m sS k0 fs (Fresh fs i) (semL E fs i tl) (.seq c1 c2) := by
  replace h1 : RdC (knE E) m sS k0 fs (i + 1) (Fresh fs i) (semFld E f i) c1 := h1
  obtain ⟨hm, hw, hr, hnd⟩ := zau hsl
  simp only [List.mem_cons, List.not_mem_nil, or_false, forall_eq] at hr
  intro a w O R B p st s hB hP hpre
  have hlen := hP.at_.len
  have hsem : st.bind (semL E fs i tl s) = (st.bind (semFld E f i s)).bind fun x => semL E fs (i + 1) tl x.1 x.2 := by
    cases st with
    | none => rfl
    | some bs => exact semL_step hf hpre hlen
  refine wp_seq (wp_mono (h1 a w O R B p st s (hB.st _) hP hpre) ?_)
  intro e a1 w1 hq
  cases e <;> try exact hq.elim
  · obtain ⟨hk, hc, hrs, st1, s1, hs1, ha1, hstp, hl, hI1⟩ := hq
    have hcO : Chg O w w1 := hc.mono fun k _ hk => by rcases hk with rfl | rfl; exact hB.oR; exact hP.oB
    have hB1 := hB.next hm hk hc (fun k hk => by rcases hk with rfl | rfl; exact hB.oR; exact hP.oB) hs1 hl
    have hP1 : RP (knE E) sS k0 fs a1 w1 O R B p s1 := ⟨(hk.slot _ hr).trans hP.pt, ha1, hP.oB, hP.ne⟩
    refine wp_mono (h2 a1 w1 O R B p st1 s1 hB1 hP1 (hpre.on (by omega) hI1)) ?_
    intro e a2 w2 hq
    cases e <;> try exact hq.elim
    obtain ⟨q1, q2⟩ := hq
    unfold Stp at hstp
    have hst : st1.bind (semL E fs (i + 1) tl s1) = st.bind (semL E fs i tl s) := by
      rw [hsem]
      cases hh : st.bind (semFld E f i s) with
      | none => rw [hh] at hstp; rw [hstp]; rfl
      | some y => rw [hh] at hstp; rw [hstp.1, hstp.2]; rfl
    rw [hst] at q2
    refine ⟨q1, ?_⟩
    rcases q2 with ⟨x1, x2, x3⟩ | ⟨s2, r, x1, x2, x3, x4, x5⟩
    · exact .inl ⟨x1, x2, hcO.trans x3 fun _ _ h => h⟩
    · exact .inr ⟨s2, r, x1, x2, hc.trans x3 fun _ _ h => h, x4, hrs.trans x5⟩
  · obtain ⟨q1, q2, q3, q4⟩ := hq
    refine ⟨q1, .inl ⟨?_, q2, q4⟩⟩
    rw [hsem, q3]; rfl
theorem rtx_tagged (hf : fs[i]? = some f) (ht : decide (0 ≤ f.tag) = true) (h : RkT E m sS k0 fs (Fresh fs (i + 1)) (semL E fs (i + 1) tl) c) : RkT E m sS k0 fs (Fresh fs i) (semL E fs i tl) c := by
  refine rtx_mono h (fun _ h => h.up (by omega)) fun s bs hfr hlen => ?_
  rw [semL_step hf hfr hlen]
  unfold semFld
  have := of_decide_eq_true ht
  rw [if_neg (by simp; omega)]
  rfl
theorem rtx_end (hl : decide (fs.length ≤ i) = true) (h : RkT E m sS k0 fs (fun _ => True) tl c) : RkT E m sS k0 fs (Fresh fs i) (semL E fs i tl) c :=
  rtx_mono h (fun _ _ => trivial) fun s bs _ hlen => semL_end (of_decide_eq_true hl) hlen
theorem rtx_tl (hsl : rsl E m [] [sS] = true) (h1 : RkC E m sS k0 fs I (fun _ => True) tl c1) (h2 : RtC E m sS k0 fs (fun _ => True) (fun s bs => some (s, bs)) c2) : RkT E m sS k0 fs (fun _ => True) tl (.seq c1 c2) := by
  obtain ⟨hm, hw, hr, hnd⟩ := zau hsl
  simp only [List.mem_cons, List.not_mem_nil, or_false, forall_eq] at hr
  intro a w O R B p st s hB hP hpre
  refine wp_seq (wp_mono (h1 a w O R B p st s hB hP trivial) ?_)
  intro e a1 w1 hq
  cases e <;> try exact hq.elim
  · obtain ⟨hk, hc, hrs, st1, s1, hs1, ha1, hstp, hl, hI1⟩ := hq
    have hcO : Chg O w w1 := hc.mono fun k _ hk => by rcases hk with rfl | rfl; exact hB.oR; exact hP.oB
    have hB1 := hB.next hm hk hc (fun k hk => by rcases hk with rfl | rfl; exact hB.oR; exact hP.oB) hs1 hl
    have hP1 : RP E sS k0 fs a1 w1 O R B p s1 := ⟨(hk.slot _ hr).trans hP.pt, ha1, hP.oB, hP.ne⟩
    refine wp_mono (h2 a1 w1 O R B p st1 s1 hB1 hP1 trivial) ?_
    intro e a2 w2 hq
    cases e <;> try exact hq.elim
    obtain ⟨q1, q2⟩ := hq
    unfold Stp at hstp
    have hst : (st1.bind fun bs => some (s1, bs)) = st.bind (tl s) := by
      cases hh : st.bind (tl s) with
      | none => rw [hh] at hstp; rw [hstp]; rfl
      | some y => rw [hh] at hstp; rw [hstp.1, hstp.2]; rfl
    rw [hst] at q2
    refine ⟨q1, ?_⟩
    rcases q2 with ⟨x1, x2, x3⟩ | ⟨s2, r, x1, x2, x3, x4, x5⟩
    · exact .inl ⟨x1, x2, hcO.trans x3 fun _ _ h => h⟩
    · exact .inr ⟨s2, r, x1, x2, hc.trans x3 fun _ _ h => h, x4, hrs.trans x5⟩
  · obtain ⟨q1, q2, q3, q4⟩ := hq
    exact ⟨q1, .inl ⟨q3, q2, q4⟩⟩
end
theorem Span_cL (l : Int) {w : World} {G : Nat → Prop} {R : Nat} {st : Option Bs} (hS : RdS w G R st) (hR : ¬ G R) (hf : ∀ k, w.heap.size ≤ k → G k) :
    zaD Tryd.prog 40 #[.pointer (some ⟨R, 0, none⟩), .int .i64 l] w (Reads w G R st (rSpan l) fun w w' G x v => outB w w' G x v ∧ x.length ≤ stLen st) := by
  obtain ⟨oa, cap, hb, hcap, hat⟩ := hS.blk
  have l0 := hb.ld (i := 0) rfl
  refine zat Tryd.func40 rfl rfl Tryd.ntmps40 (by simp) ?_
  intro a hN hD ha
  have h0 : get a 0 = .pointer (some ⟨R, 0, none⟩) := ha 0 _ rfl
  have h1 : get a 1 = .int .i64 l := ha 1 _ rfl
  refine wp_seq_k fun K hK => ?_; refine zai ?_; (repeat ((with_reducible refine zaw ?_ ?_ ?_); (· simp [evb, pvb, rnb, kb, hN, dyb, sdb] <;> omega); (· kernel_rfl); try simp only [evb, pvb, rnb, kb, hN, seval])); refine zah ?_; refine hK _ _ ?_; clear hK K
  have fail : (((st.getD []).length : Int) < l ∨ l < 0) → ∀ bs, st = some bs → rSpan l bs = none := by
    rintro h bs rfl
    change (bs.length : Int) < l ∨ _ at h
    unfold rSpan take?
    split
    · rw [if_neg (by omega)]
    · rfl
  by_cases hlt : ((st.getD []).length : Int) < l ∨ l < 0
  · refine wp_seq_k fun K hK => ?_; refine wp_seq_k fun K0 hK0 => ?_
    by_cases g1 : ((st.getD []).length : Int) < l
    · have d1 : decide (((st.getD []).length : Int) < l) = true := decide_eq_true g1
      refine zai ?_; (repeat (first | ((with_reducible refine zaw ?_ ?_ ?_); (· simp [evb, pvb, rnb, kb, hN, seval, h0, h1, l0, fo, d1, dyb, sdb] <;> omega); (· kernel_rfl); try simp only [evb, pvb, rnb, kb, hN, seval, h0, h1, l0, fo, d1]) | ((with_reducible apply wl_gyesB); (· exact rfl); (· exact rfl); (· simp [evb, pvb, rnb, kb, hN, seval, h0, h1, l0, fo, d1]; done); try simp only [evb, pvb, rnb, kb, hN, seval, h0, h1, l0, fo, d1]) | ((with_reducible apply wl_gnoB); (· exact rfl); (· exact rfl); (· simp [evb, pvb, rnb, kb, hN, seval, h0, h1, l0, fo, d1]; done); try simp only [evb, pvb, rnb, kb, hN, seval, h0, h1, l0, fo, d1]) | ((with_reducible apply wl_gnoU); (· exact rfl); (· exact rfl); (· simp [evb, pvb, rnb, kb, hN, seval, h0, h1, l0, fo, d1]; done); try simp only [evb, pvb, rnb, kb, hN, seval, h0, h1, l0, fo, d1]))); refine zah ?_; refine hK0 _ _ ?_; try clear hK0 K0
      refine wp_cond_true (by simp only [evb, pvb, rnb, kb, hN, seval]) ?_
      refine rd_fail (by simp only [zae]; exact hN) (by simp only [evb, pvb, rnb, kb, hN, seval, h0]) hb (by kernel_rfl) fun a' w' k1 k2 k3 k4 => ⟨by rw [k1]; simp only [zaj, hD], Reads.fail [] k4 k3 (fail hlt) ⟨⟨none, 0, k2, Nat.le_refl _, .inl rfl⟩, Nat.zero_le _⟩⟩
    · have d1 : decide (((st.getD []).length : Int) < l) = false := decide_eq_false g1
      have d2 : decide (l < 0) = true := decide_eq_true (by omega)
      refine zai ?_; (repeat (first | ((with_reducible refine zaw ?_ ?_ ?_); (· simp [evb, pvb, rnb, kb, hN, seval, h0, h1, l0, fo, d1, d2, dyb, sdb] <;> omega); (· kernel_rfl); try simp only [evb, pvb, rnb, kb, hN, seval, h0, h1, l0, fo, d1, d2]) | ((with_reducible apply wl_gyesB); (· exact rfl); (· exact rfl); (· simp [evb, pvb, rnb, kb, hN, seval, h0, h1, l0, fo, d1, d2]; done); try simp only [evb, pvb, rnb, kb, hN, seval, h0, h1, l0, fo, d1, d2]) | ((with_reducible apply wl_gnoB); (· exact rfl); (· exact rfl); (· simp [evb, pvb, rnb, kb, hN, seval, h0, h1, l0, fo, d1, d2]; done); try simp only [evb, pvb, rnb, kb, hN, seval, h0, h1, l0, fo, d1, d2]) | ((with_reducible apply wl_gnoU); (· exact rfl); (· exact rfl); (· simp [evb, pvb, rnb, kb, hN, seval, h0, h1, l0, fo, d1, d2]; done); try simp only [evb, pvb, rnb, kb, hN, seval, h0, h1, l0, fo, d1, d2]))); refine zah ?_; refine hK0 _ _ ?_; try clear hK0 K0
      refine wp_cond_true (by simp only [evb, pvb, rnb, kb, hN, seval]) ?_
      refine rd_fail (by simp only [zae]; exact hN) (by simp only [evb, pvb, rnb, kb, hN, seval, h0]) hb (by kernel_rfl) fun a' w' k1 k2 k3 k4 => ⟨by rw [k1]; simp only [zaj, hD], Reads.fail [] k4 k3 (fail hlt) ⟨⟨none, 0, k2, Nat.le_refl _, .inl rfl⟩, Nat.zero_le _⟩⟩
  · have d1 : decide (((st.getD []).length : Int) < l) = false := decide_eq_false (by omega)
    have d2 : decide (l < 0) = false := decide_eq_false (by omega)
    have d3 : decide (0 ≤ l) = true := decide_eq_true (by omega)
    have d4 : decide (l ≤ (cap : Int)) = true := decide_eq_true (by omega)
    have d5 : decide (l ≤ (l.toNat : Int)) = true := decide_eq_true (by omega)
    have d6 : decide (l ≤ ((st.getD []).length : Int)) = true := decide_eq_true (by omega)
    refine wp_seq_k fun K hK => ?_; refine wp_seq_k fun K0 hK0 => ?_; refine zai ?_; (repeat (first | ((with_reducible refine zaw ?_ ?_ ?_); (· simp [evb, pvb, rnb, kb, hN, seval, h0, h1, l0, fo, d1, d2, dyb, sdb] <;> omega); (· kernel_rfl); try simp only [evb, pvb, rnb, kb, hN, seval, h0, h1, l0, fo, d1, d2]) | ((with_reducible apply wl_gyesB); (· exact rfl); (· exact rfl); (· simp [evb, pvb, rnb, kb, hN, seval, h0, h1, l0, fo, d1, d2]; done); try simp only [evb, pvb, rnb, kb, hN, seval, h0, h1, l0, fo, d1, d2]) | ((with_reducible apply wl_gnoB); (· exact rfl); (· exact rfl); (· simp [evb, pvb, rnb, kb, hN, seval, h0, h1, l0, fo, d1, d2]; done); try simp only [evb, pvb, rnb, kb, hN, seval, h0, h1, l0, fo, d1, d2]) | ((with_reducible apply wl_gnoU); (· exact rfl); (· exact rfl); (· simp [evb, pvb, rnb, kb, hN, seval, h0, h1, l0, fo, d1, d2]; done); try simp only [evb, pvb, rnb, kb, hN, seval, h0, h1, l0, fo, d1, d2]))); refine zah ?_; refine hK0 _ _ ?_; try clear hK0 K0
    refine wp_cond_false (by simp only [evb, pvb, rnb, kb, hN, seval]) ?_
    refine wp_skip ?_
    refine hK _ _ ?_
    clear hK K
    refine wp_seq_k fun K hK => ?_; refine zai ?_; (repeat ((with_reducible refine zaw ?_ ?_ ?_); (· simp [evb, pvb, rnb, kb, hN, h0, h1, l0, fo, d3, d4, d5, dyb, sdb] <;> omega); (· kernel_rfl); try simp only [evb, pvb, rnb, kb, hN, seval, h0, h1, l0, fo, d3, d4, d5])); refine zah ?_; refine hK _ _ ?_; clear hK K
    refine wp_seq_k fun K hK => ?_; refine zai ?_; (repeat ((with_reducible refine zaw ?_ ?_ ?_); (· simp [evb, pvb, rnb, kb, hN, h0, h1, l0, fo, d3, d6, dyb, sdb] <;> omega); (· kernel_rfl); try simp only [evb, pvb, rnb, kb, hN, seval, h0, h1, l0, fo, d3, d6]))
    refine zaX (b := R) (o := 0) (n := 1) (v := .slice (if cap = l.toNat then oa else oa.map (·.add (l.toNat * 1))) ((st.getD []).length - l.toNat) (cap - l.toNat)) (by kernel_rfl) (by simp only [evb, pvb, rnb, kb, hN, seval]) (by simp only [evb, pvb, rnb, kb, hN, seval]; try rfl) hb rfl (by intro y hy; simp only [Value.cells, List.mem_singleton] at hy; subst hy; rfl) (by simp) fun w2 hb2 hc2 => ?_
    refine zah ?_; refine hK _ _ ?_; clear hK K
    refine wp_seq_k fun K hK => ?_; refine zai ?_; (repeat ((with_reducible refine zaw ?_ ?_ ?_); (· simp [evb, pvb, rnb, kb, hN, h0, dyb, sdb] <;> omega); (· kernel_rfl); try simp only [evb, pvb, rnb, kb, hN, seval, h0])); refine zah ?_; refine hK _ _ ?_; clear hK K
    refine wp_ret ⟨by simp [zaj, hD], ?_⟩; simp only [evb, kb, hN, seval]
    have hx : ∀ g, G g → g < w.heap.size → ¬ g = R := fun g hg _ e => hR (e ▸ hg)
    cases st with
    | none =>
      have hl0 : l = 0 := by change ¬ (((0 : Nat) : Int) < l ∨ l < 0) at hlt; omega
      subst hl0
      refine ⟨hc2, ?_, [], ⟨⟨oa, 0, rfl, Nat.le_refl _, .inl rfl⟩, Nat.zero_le _⟩, fun y h => by cases h⟩
      have e : (none : Option Bs).bind (rSpan 0) = none := rfl
      rw [e]
      have ho : oa = none ∧ cap = 0 := by
        have := hS.blk
        have h3 : Blk w R [.slice none 0 0, .bool true] tR := hS
        have := (hb.inj h3).1
        simp at this
        exact ⟨this.1, this.2⟩
      obtain ⟨rfl, rfl⟩ := ho
      exact hb2
    | some bs =>
      change ¬ ((bs.length : Int) < l ∨ l < 0) at hlt
      change bs.length ≤ cap at hcap
      change zaq w G oa bs at hat
      have hat3 := ((bytes_rest (i := l.toNat) hat hcap).chg hc2 hx)
      have hb3 : Blk w2 R [.slice (if cap = l.toNat then oa else oa.map (·.add (l.toNat * 1))) (bs.drop l.toNat).length (cap - l.toNat), .bool false] tR := by rw [List.length_drop]; exact hb2
      have e : (bs.take l.toNat).length = l.toNat := by rw [List.length_take]; omega
      refine Reads.done (x := bs.take l.toNat) (by unfold rSpan take?; rw [if_pos (by omega), if_pos (by omega)]) hc2 hb3 (by rw [List.length_drop]; omega) hat3 ⟨⟨oa, l.toNat, by rw [e], by rw [e]; exact Nat.le_refl _, (hat.take _).chg hc2 hx⟩, by rw [List.length_take]; exact Nat.min_le_right _ _⟩
section
variable {y0 y1 y2 y3 y4 y5 y6 y7 y8 y9 y10 y11 y12 y13 y14 y15 y16 y17 y18 y19 y20 y21 y22 y23 y24 y25 y26 y27 y28 y29 y30 y31 y32 y33 y34 y35 y36 y37 y38 y39 : TypeId} {q0 q1 q2 q3 q4 q5 q6 q7 q8 q9 q10 q11 q12 q13 q14 q15 q16 q17 q18 q19 q20 q21 q22 q23 q24 q25 q26 q27 q28 q29 q30 q31 q32 q33 q34 q35 q36 q37 q38 q39 : String} {e0 e1 e2 e3 e4 e5 e6 e7 e8 e9 e10 e11 e12 e13 e14 e15 e16 e17 e18 e19 e20 e21 e22 e23 e24 e25 e26 e27 e28 e29 e30 e31 e32 e33 e34 e35 e36 e37 e38 e39 : Array Edge} {r0 r1 r2 r3 r4 r5 : Nat}
variable {E : REnv} {m mB sS k0 i I x y ys aS iS t1 t2 t3 t4 t5 t6 : Nat} {fs sub : List Fld} {c : Code} {us : Array TypeId} {fn : FuncId} {T ty : Nat}
end
section
variable {y0 y1 y2 y3 y4 y5 y6 y7 y8 y9 y10 y11 y12 y13 y14 y15 y16 y17 y18 y19 y20 y21 y22 y23 y24 y25 y26 y27 y28 y29 y30 y31 y32 y33 y34 y35 y36 y37 y38 y39 : TypeId} {q0 q1 q2 q3 q4 q5 q6 q7 q8 q9 q10 q11 q12 q13 q14 q15 q16 q17 q18 q19 q20 q21 q22 q23 q24 q25 q26 q27 q28 q29 q30 q31 q32 q33 q34 q35 q36 q37 q38 q39 : String} {e0 e1 e2 e3 e4 e5 e6 e7 e8 e9 e10 e11 e12 e13 e14 e15 e16 e17 e18 e19 e20 e21 e22 e23 e24 e25 e26 e27 e28 e29 e30 e31 e32 e33 e34 e35 e36 e37 e38 e39 : Array Edge} {r0 r1 r2 r3 r4 r5 : Nat}
variable {E : REnv} {m sS B R T : Nat} {N : Nat} {us us2 : Array TypeId} {fs : List Fld} {c : Code} {dc : List Value} {ver : Int} {a : Act} {w w0 : World} {oa : Option Addr} {bs : Bs} {cap : Nat} {fnD : FuncId} {Q : Exit → Act → World → Prop} {r6 r7 r8 r9 : Nat}
end
end Go.Proofs.YtojpodeljpfgaabDoor
namespace Go.Proofs.YtojpodeljpfgaabDoor
set_option linter.all false
open Go.RowKit
set_option maxRecDepth 10000
set_option maxHeartbeats 1000000
section
variable {y0 y1 y2 y3 y4 y5 y6 y7 y8 y9 y10 y11 y12 y13 y14 y15 y16 y17 y18 y19 y20 y21 y22 y23 y24 y25 y26 y27 y28 y29 y30 y31 y32 y33 y34 y35 y36 y37 y38 y39 : TypeId} {q0 q1 q2 q3 q4 q5 q6 q7 q8 q9 q10 q11 q12 q13 q14 q15 q16 q17 q18 q19 q20 q21 q22 q23 q24 q25 q26 q27 q28 q29 q30 q31 q32 q33 q34 q35 q36 q37 q38 q39 : String} {e0 e1 e2 e3 e4 e5 e6 e7 e8 e9 e10 e11 e12 e13 e14 e15 e16 e17 e18 e19 e20 e21 e22 e23 e24 e25 e26 e27 e28 e29 e30 e31 e32 e33 e34 e35 e36 e37 e38 e39 : Array Edge} {r0 r1 r2 r3 r4 r5 : Nat}
variable {E : REnv} {m aS iS x t1 t2 t3 t4 ty tyE : Nat} {of : K} {sub : List Fld} {c : Code}
theorem el_val1 {zc : List Value} (hty : (decide (of ≠ .struct) && decide (of ≠ .list) && decide (ksz of = 1) && sliceB Tryd.prog ty 1 && sizeB Tryd.prog tyE 1) = true) (h : RvC E m x (kfR of) (rK of E.flex) c)
    (s1 : rsl E m [t1, t2, t3, t4] [E.rr, aS, iS] = true) (s2 : [t1, t2, t3, t4].all (fun t => decide (t ≠ x)) = true) :
    ElC E m aS iS (eszR E of sub) (oneR E of sub) (repR E of sub) zc
      (.seq c (.region r0 #[⟨some t1, .move (.tmp aS), y0, q0, e0, none⟩, ⟨some t2, .move (.tmp iS), y1, q1, e1, none⟩, ⟨some t3, .move (.tmp x), y2, q2, e2, none⟩, ⟨some t4, .indexAddr ty (.tmp t1) (.tmp t2), y3, q3, e3, none⟩, ⟨none, .store tyE (.tmp t4) (.tmp t3), y4, q4, e4, none⟩] false)) := by
  have e : eszR E of sub = ksz of := by
    cases of <;> first | rfl | (exfalso; simp at hty)
  rw [e]
  exact el_val hty h s1 s2
end
section
variable {y0 y1 y2 y3 y4 y5 y6 y7 y8 y9 y10 y11 y12 y13 y14 y15 y16 y17 y18 y19 y20 y21 y22 y23 y24 y25 y26 y27 y28 y29 y30 y31 y32 y33 y34 y35 y36 y37 y38 y39 : TypeId} {q0 q1 q2 q3 q4 q5 q6 q7 q8 q9 q10 q11 q12 q13 q14 q15 q16 q17 q18 q19 q20 q21 q22 q23 q24 q25 q26 q27 q28 q29 q30 q31 q32 q33 q34 q35 q36 q37 q38 q39 : String} {e0 e1 e2 e3 e4 e5 e6 e7 e8 e9 e10 e11 e12 e13 e14 e15 e16 e17 e18 e19 e20 e21 e22 e23 e24 e25 e26 e27 e28 e29 e30 e31 e32 e33 e34 e35 e36 e37 e38 e39 : Array Edge} {r0 r1 r2 r3 r4 r5 : Nat}
variable {E : REnv} {m sS k0 i I x y t1 t2 t3 t4 t5 T ty idx : Nat} {us : Array TypeId} {f : Fld} {fs : List Fld} {pre : S → Prop} {sem : Bs → Option (D × Bs)} {fn : FuncId} {a1 a2 a3 a4 a5 : Int} {of : K} {sub : List Fld} {c : Code}
end
end Go.Proofs.YtojpodeljpfgaabDoor
namespace Go.Proofs.YtojpodeljpfgaabDoor
set_option linter.all false
open Go.RowKit
set_option maxRecDepth 10000
set_option maxHeartbeats 4000000
theorem AtE.goK {E E' : REnv} {w w' : World} {O O' : Nat → Prop} {fs : List Fld} {s s' : S} {B o : Nat} {v : Value} (h : AtE E w O fs s B o) (hj : E.jk = some v) (hj' : E'.jk = some v) (hfl : E'.fl = E.fl) (hs : s'.ds = s.ds)
    (st : Stay w w' (fun g => ¬ O g) (fun g => ¬ O' g)) (hB : w'.heap[B]? = w.heap[B]?) : AtE E' w' O' fs s' B o := by
  obtain ⟨cs, T, h1, h2, v1, v2, h3, h4, h5⟩ := h
  unfold TgX at h5
  rw [hj] at h5
  refine ⟨cs, T, hB.trans h1, by rw [hfl]; exact h2, v1, v2, by rw [hfl]; exact h3, by rw [hs, hfl]; exact RepL.stay st h4, ?_⟩
  unfold TgX
  rw [hj', hfl]
  exact h5
structure KI (E : REnv) (k0 : Nat) (fs : List Fld) (w : World) (O : Nat → Prop) (R B p : Nat) (st : Option Bs) (w' : World) (m : Option Nat) (tg : za0) (sc : Option Bs) (ds : List D) : Prop where
  chg : Chg (fun k => k = R ∨ k = B) w w'
  rest : Rest w w' B (p + k0) (ssz E.fl fs)
  rd : RdS w' (fun g => ¬ (O g ∨ some g = m)) R sc
  at_ : AtE ⟨E.N, E.ver, E.flex, E.fl, E.rr, some (.map m)⟩ w' (fun g => O g ∨ some g = m) fs ⟨ds, []⟩ B (p + k0)
  tg : TagsAt w' (fun g => ¬ O g) m tg
  mr : ∀ r, m = some r → w.heap.size ≤ r ∧ r < w'.heap.size
  len : stLen sc ≤ stLen st
section
variable {E : REnv} {k0 sS : Nat} {fs : List Fld} {w w' w'' : World} {O : Nat → Prop} {R B p : Nat} {st sc : Option Bs} {m m' : Option Nat} {tg : za0} {ds : List D} {a : Act} {s : S}
theorem KI.start (hB : RB E a w O R st) (hP : RP (knE E) sS k0 fs a w O R B p s) : KI E k0 fs w O R B p st w none [] st s.ds := by
  have hs : Stay w w (fun g => ¬ O g) (fun g => ¬ (O g ∨ some g = none)) := ⟨fun k _ h => ⟨rfl, by rintro (h1 | h1); exact h h1; cases h1⟩⟩
  exact ⟨Chg.refl _ _, Rest.of rfl, hB.rs.stay hs rfl, hP.at_.goK rfl rfl rfl rfl hs rfl, .inl ⟨rfl, rfl⟩, fun r h => (by cases h), Nat.le_refl _⟩
theorem KI.new (h : KI E k0 fs w O R B p st w' m tg sc ds) (hB : RB E a w O R st) : ∀ k, w'.heap.size ≤ k → ¬ (O k ∨ some k = m) := by
  intro k hk
  have := h.chg.size
  rintro (h1 | h1)
  · exact hB.new k (by omega) h1
  · have := (h.mr k h1.symm).2; omega
theorem KI.read {α : Type} {sem : Bs → Option (α × Bs)} {out : World → World → (Nat → Prop) → α → Value → Prop} {v : Value} (h : KI E k0 fs w O R B p st w' m tg sc ds) (oR : O R) (ne : R ≠ B) (hr : Reads w' (fun g => ¬ (O g ∨ some g = m)) R sc sem out v w'') (hl : Less sem) :
    KI E k0 fs w O R B p st w'' m tg ((sc.bind sem).map (·.2)) ds := by
  have hb : w''.heap[B]? = w'.heap[B]? := by
    obtain ⟨_, _, q, _⟩ := h.at_
    exact hr.chg.block B q.lt fun e => ne e.symm
  refine ⟨h.chg.trans hr.chg fun _ _ h => .inl h, h.rest.trans (Rest.of hb), hr.rd, h.at_.goK rfl rfl rfl rfl (Stay.of hr.chg fun k hk _ e => hk (e ▸ .inl oR)) hb, h.tg.stay (Stay.of hr.chg fun k hk _ e => hk (e ▸ oR)), fun r hr' => ?_, Nat.le_trans (hl.st sc) h.len⟩
  have := h.mr r hr'
  have := hr.chg.size
  omega
theorem KI.cell (h : KI E k0 fs w O R B p st w' m tg sc ds) (hfl : E.fl = true) : ∃ cs T, Blk w' B cs T ∧ cs[p + (k0 + lsz true fs)]? = some (.map m) := by
  obtain ⟨cs, T, h1, h2, v1, v2, h3, h4, h5, _⟩ := h.at_
  subst h5
  change (cs.drop (p + k0)).take (ssz E.fl fs) = _ at h3
  change p + k0 + ssz E.fl fs ≤ _ at h2
  have l1 : v1.length = lsz E.fl fs := h4.len.1
  rw [hfl] at h3 h2 l1
  have hsz : ssz true fs = lsz true fs + 1 := rfl
  refine ⟨cs, T, h1, ?_⟩
  have e : p + (k0 + lsz true fs) = p + k0 + lsz true fs := by omega
  rw [e, ← seg_get (n := ssz true fs) (by omega), h3, List.getElem?_append_right (by omega), l1]
  simp
theorem KI.set {w3 : World} {k : Nat} {l : Bs} {cs : List Value} {T : TypeId} (h : KI E k0 fs w O R B p st w' m tg sc ds) (hfl : E.fl = true) (oB : O B) (oR : O R) (ne : R ≠ B) (hb : Blk w' B cs T) (hb3 : Blk w3 B (zas cs (p + (k0 + lsz true fs)) [.map m']) T) (ht3 : TagsAt w3 (fun g => ¬ O g) m' (tagSet tg k l))
    (hc3 : Chg (fun j => j = B ∨ some j = m) w' w3) (hm : m' = m ∨ ∃ r, m' = some r ∧ w'.heap.size ≤ r) : KI E k0 fs w O R B p st w3 m' (tagSet tg k l) sc ds := by
  have hs3 := hc3.size
  have hs0 := h.chg.size
  have hsz : ssz true fs = lsz true fs + 1 := rfl
  have stG : Stay w' w3 (fun g => ¬ (O g ∨ some g = m)) (fun g => ¬ (O g ∨ some g = m')) := ⟨fun j hj hg => by
    refine ⟨hc3.block j hj ?_, ?_⟩
    · rintro (e | e)
      · exact hg (e ▸ .inl oB)
      · exact hg (.inr e)
    · rintro (e | e)
      · exact hg (.inl e)
      · rcases hm with rfl | ⟨r, rfl, hr⟩
        · exact hg (.inr e)
        · cases e; omega⟩
  obtain ⟨cs0, T0, q1, q2, v1, v2, q3, q4, q5, q6⟩ := h.at_
  obtain ⟨rfl, rfl⟩ := q1.inj hb
  subst q5
  change (cs0.drop (p + k0)).take (ssz E.fl fs) = _ at q3
  change p + k0 + ssz E.fl fs ≤ _ at q2
  change RepL _ _ E.fl _ _ _ at q4
  have l1 : v1.length = lsz E.fl fs := q4.len.1
  rw [hfl] at q2 q3 l1
  have hlen : p + k0 + lsz true fs + ([.map m'] : List Value).length ≤ cs0.length := by simp only [List.length_singleton]; omega
  rw [← Nat.add_assoc] at hb3
  refine ⟨h.chg.trans hc3 fun n hn e => ?_, h.rest.trans ?_, h.rd.stay stG (hc3.block R h.rd.lt ?_), ⟨_, _, hb3, ?_, v1, [.map m'], ?_, RepL.stay stG q4, rfl, q6⟩, ht3, fun r hr => ?_, h.len⟩
  · rcases e with e | e
    · exact .inr e
    · have := (h.mr n e.symm).1; omega
  · intro cs1 T1 hb1
    obtain ⟨rfl, rfl⟩ := hb1.inj hb
    rw [hfl]
    refine ⟨_, hb3, zaG hlen, fun j hj => ?_⟩
    rcases hj with hj | hj
    · exact zaO hlen (by omega)
    · exact zaV hlen (by simp only [List.length_singleton]; omega)
  · rintro (e | e)
    · exact ne e
    · have h2 := h.rd
      obtain ⟨_, _, h3, _⟩ := h2.blk
      rcases h.tg with ⟨e', _⟩ | ⟨r, es, c, e1, e2, _⟩
      · rw [e'] at e; cases e
      · rw [e1] at e; cases e; exact e2 oR
  · show _ + ssz E.fl fs ≤ _
    rw [hfl, zaG hlen]; exact q2
  · show List.take (ssz E.fl fs) _ = _
    rw [hfl, seg_splice (by simp only [List.length_singleton]; omega) q2, q3]
    unfold zas
    rw [List.take_append_of_le_length (by omega), List.take_of_length_le (by omega), List.drop_of_length_le (by simp only [List.length_append, List.length_singleton]; omega), List.append_nil]
  · rcases hm with rfl | ⟨r', rfl, hr'⟩
    · have := h.mr r hr; omega
    · cases hr
      rcases ht3 with ⟨e, _⟩ | ⟨r2, es, c, e1, e2, e3, _⟩
      · cases e
      · cases e1
        exact ⟨by omega, (Array.getElem?_eq_some_iff.1 e3).1⟩
theorem KI.inRB {w5 : World} {X cap : Nat} {oa : Option Addr} {l : Bs} {a5 : Act} (h : KI E k0 fs w O R B p st w' m tg sc ds) (hB : RB E a w O R st) (oB : O B) (hc : Chg (fun _ => False) w' w5) (hb5 : Blk w5 w'.heap.size [.slice oa l.length cap, .bool false] tR) (hcap : l.length ≤ cap)
    (hl : zaq w' (fun g => ¬ (O g ∨ some g = m)) oa l) (hlen : l.length ≤ RLIM) (hok : ROK E a5) (hx : get a5 X = .pointer (some ⟨w'.heap.size, 0, none⟩)) :
    RB ⟨E.N, E.ver, E.flex, E.fl, X, some (.map m)⟩ a5 w5 (fun g => (O g ∨ some g = m) ∨ g = w'.heap.size) w'.heap.size (some l) := by
  have hs := h.chg.size
  have hg := gE_lt hB.err
  have e5 := ((hB.err.chg h.chg (by rintro (e | e); exact hB.oE (e ▸ hB.oR); exact hB.oE (e ▸ oB))).chg hc fun h => h)
  refine ⟨hok, hx, ⟨oa, cap, hb5, hcap, hl.stay ⟨fun k hk hg => ⟨hc.block k hk (fun h => h), by rintro (e | e); exact hg e; omega⟩⟩⟩, .inr rfl, ?_, e5, ?_, hlen⟩
  · rintro ((e | e) | e)
    · exact hB.oE e
    · have := (h.mr _ e.symm).1; omega
    · omega
  · intro k hk
    have := hb5.lt
    rintro (e | e)
    · exact h.new hB k (by omega) e
    · omega
theorem KI.inner {w5 w6 : World} {X : Nat} {s2 : S} (h : KI E k0 fs w O R B p st w' m tg sc ds) (oB : O B) (oR : O R) (ne : R ≠ B) (hc : Chg (fun _ => False) w' w5) (hc6 : Chg (fun k => k = w'.heap.size ∨ k = B) w5 w6) (hr6 : Rest w5 w6 B (p + k0) (ssz E.fl fs))
    (ha6 : AtE ⟨E.N, E.ver, E.flex, E.fl, X, some (.map m)⟩ w6 (fun g => (O g ∨ some g = m) ∨ g = w'.heap.size) fs s2 B (p + k0)) : KI E k0 fs w O R B p st w6 m tg sc s2.ds := by
  have hs0 := h.chg.size
  have hs5 := hc.size
  have hs6 := hc6.size
  have hb : B < w'.heap.size := by
    obtain ⟨_, _, q, _⟩ := h.at_
    exact q.lt
  have key : ∀ k, k < w'.heap.size → k ≠ B → w6.heap[k]? = w'.heap[k]? := fun k hk hkB => (hc6.block k (by omega) (by rintro (e | e); omega; exact hkB e)).trans (hc.block k hk fun h => h)
  have stG : Stay w' w6 (fun g => ¬ (O g ∨ some g = m)) (fun g => ¬ (O g ∨ some g = m)) := ⟨fun k hk hg => ⟨key k hk fun e => hg (e ▸ .inl oB), hg⟩⟩
  refine ⟨(h.chg.trans hc fun _ _ h => h.elim).trans hc6 fun n hn e => ?_, (h.rest.trans (Rest.of (hc.block B hb fun h => h))).trans hr6, h.rd.stay stG (key R h.rd.lt ne), ha6.goK rfl rfl rfl rfl ⟨fun k hk hg => ⟨rfl, fun e => hg (.inl e)⟩⟩ rfl, h.tg.stay ⟨fun k hk hg => ⟨key k hk fun e => hg (e ▸ oB), hg⟩⟩, fun r hr => ?_, h.len⟩
  · rcases e with e | e
    · omega
    · exact .inr e
  · have := h.mr r hr; omega
theorem KI.failed {w5 w6 : World} (h : KI E k0 fs w O R B p st w' m tg sc ds) (oB : O B) (oR : O R) (hc : Chg (fun _ => False) w' w5) (hc6 : Chg (fun g => (O g ∨ some g = m) ∨ g = w'.heap.size) w5 w6) : Chg O w w6 := by
  have hs0 := h.chg.size
  refine ((h.chg.mono fun k _ e => by rcases e with rfl | rfl; exact oR; exact oB : Chg O w w').trans hc fun _ _ h => h.elim).trans hc6 fun n hn e => ?_
  rcases e with (e | e) | e
  · exact e
  · have := (h.mr n e.symm).1; omega
  · omega
theorem KI.fin (h : KI E k0 fs w O R B p st w' m tg sc ds) (hfl : E.fl = true) (hok : ∀ t, tagOK t) (hj : E.jk = none) : RdS w' (fun g => ¬ O g) R sc ∧ AtE E w' O fs ⟨ds, tg⟩ B (p + k0) := by
  have stG : Stay w' w' (fun g => ¬ (O g ∨ some g = m)) (fun g => ¬ O g) := ⟨fun k hk hg => ⟨rfl, fun e => hg (.inl e)⟩⟩
  refine ⟨h.rd.stay stG rfl, ?_⟩
  obtain ⟨cs0, T0, q1, q2, v1, v2, q3, q4, q5, q6⟩ := h.at_
  refine ⟨cs0, T0, q1, q2, v1, v2, q3, RepL.stay stG q4, ?_⟩
  unfold TgX
  rw [hj]
  show RepT _ _ _ _ _
  rw [hfl]
  unfold RepT
  rw [if_pos rfl]
  exact ⟨m, q5, h.tg, hok _⟩
variable {known : Nat → Option (Nat × (Bs → Option D))} {i : Nat} {f2 : Bs → Option D}
def Kn0 (known : Nat → Option (Nat × (Bs → Option D))) (i : Nat) (f2 : Bs → Option D) : Prop := ∀ k, known k = if k = 0 then some (i, f2) else none
theorem kn0_of {f : Fld} : ∀ {fs : List Fld} {i0 i : Nat} {flex : Bool} {ver : Int}, fs[i]? = some f → f.tag = 0 → (∀ (j : Nat) (g : Fld), fs[j]? = some g → j ≠ i → g.tag < 0) → Kn0 (zax flex ver fs i0) (i0 + i) fun bs => (decF flex ver f bs).map (·.1)
  | [], _, _, _, _, h, _, _ => by simp at h
  | g :: r, i0, 0, flex, ver, h, ht, hn => by
    simp at h; subst h
    have hr : ∀ (r : List Fld) (i0 k : Nat), (∀ (j : Nat) (g : Fld), r[j]? = some g → g.tag < 0) → zax flex ver r i0 k = none := by
      intro r
      induction r with
      | nil => intro i0 k _; unfold zax; rfl
      | cons x r ih =>
        intro i0 k h
        unfold zax
        rw [if_neg (by have := h 0 x rfl; omega)]
        exact ih (i0 + 1) k fun j g hg => h (j + 1) g (by simpa using hg)
    intro k
    unfold zax
    rw [ht]
    by_cases hk : k = 0
    · rw [if_pos (by omega), if_pos hk]; rfl
    · rw [if_neg (by omega), if_neg hk]
      exact hr r (i0 + 1) k fun j g hg => hn (j + 1) g (by simpa using hg) (by omega)
  | g :: r, i0, i + 1, flex, ver, h, ht, hn => by
    intro k
    unfold zax
    rw [if_neg (by have := hn 0 g rfl (by omega); omega)]
    have := kn0_of (fs := r) (i0 := i0 + 1) (i := i) (flex := flex) (ver := ver) (by simpa using h) ht (fun j g hg hj => hn (j + 1) g (by simpa using hg) (by omega)) k
    rw [this, show i0 + 1 + i = i0 + (i + 1) by omega]
def kn0B (fs : List Fld) (i : Nat) : Bool := (match fs[i]? with | some f => decide (f.tag = 0) | none => false) && (List.range fs.length).all fun j => decide (j = i) || (match fs[j]? with | some g => decide (g.tag < 0) | none => true)
theorem kn0B_out {fs : List Fld} {i : Nat} {f : Fld} (hf : fs[i]? = some f) (h : kn0B fs i = true) (flex : Bool) (ver : Int) : Kn0 (zax flex ver fs 0) i fun bs => (decF flex ver f bs).map (·.1) := by
  unfold kn0B at h
  rw [hf] at h
  simp only [Bool.and_eq_true, decide_eq_true_eq, List.all_eq_true, Bool.or_eq_true, List.mem_range] at h
  have := kn0_of (i0 := 0) (flex := flex) (ver := ver) hf h.1 fun j g hg hj => by
    have hlt := (List.getElem?_eq_some_iff.1 hg).1
    rcases h.2 j hlt with e | e
    · exact absurd e hj
    · rw [hg] at e; exact of_decide_eq_true e
  rwa [Nat.zero_add] at this
end
def InT (E : REnv) (m sS k0 : Nat) (fs : List Fld) (I : Nat) (sem : Sem) (T0 c : Code) : Prop :=
  ∀ (a : Act) (w : World) (O : Nat → Prop) (R B p : Nat) (st : Option Bs) (s : S) (Q : Exit → Act → World → Prop), RB E a w O R st → RP E sS k0 fs a w O R B p s →
    (∀ a' w', RdQ E m k0 fs I sem a w O R B p st s .normal a' w' → T0.wp Tryd.prog Q a' w') → (∀ a' w', RdQ E m k0 fs I sem a w O R B p st s .ret a' w' → Q .ret a' w') → c.wp Tryd.prog Q a w
theorem zam.put0 {S : Nat → Prop} {a b : Act} (h : zam S a b) (v : Value) : zam S a (b.put none v) := h
theorem wp_gen {P : Program} {c : Code} {Q : Exit → Act → World → Prop} {a : Act} {w : World} (h : ∀ a', a' = a → c.wp P Q a' w) : c.wp P Q a w := h a rfl
section
variable {y0 y1 y2 y3 y4 y5 y6 y7 y8 y9 y10 y11 y12 y13 y14 y15 y16 y17 y18 y19 y20 y21 y22 y23 y24 y25 y26 y27 y28 y29 y30 y31 y32 y33 y34 y35 y36 y37 y38 y39 : TypeId} {q0 q1 q2 q3 q4 q5 q6 q7 q8 q9 q10 q11 q12 q13 q14 q15 q16 q17 q18 q19 q20 q21 q22 q23 q24 q25 q26 q27 q28 q29 q30 q31 q32 q33 q34 q35 q36 q37 q38 q39 : String} {e0 e1 e2 e3 e4 e5 e6 e7 e8 e9 e10 e11 e12 e13 e14 e15 e16 e17 e18 e19 e20 e21 e22 e23 e24 e25 e26 e27 e28 e29 e30 e31 e32 e33 e34 e35 e36 e37 e38 e39 : Array Edge} {r0 r1 r2 r3 r4 r5 : Nat}
variable {E : REnv} {m sS k0 i I x y t t1 t2 t3 t4 t5 T ty idx : Nat} {us : Array TypeId} {f : Fld} {fs : List Fld} {pre : S → Prop} {sem : Bs → Option (D × Bs)} {semS : Sem} {fn : FuncId} {a1 a2 a3 a4 a5 : Int} {of : K} {sub : List Fld} {c T0 : Code}
theorem it_store (h : RvC E m x f sem c) (hf : fs[i]? = some f) (hF : (decide (fsz E.fl f = 1) && zaR Tryd.prog T idx (k0 + foff E.fl fs i) 1 && sizeB Tryd.prog ty 1) = true) (hsl : rsl E m [t1, t2, t3, t4] [sS, E.rr] = true) (hx : [t1, t2, t3, t4].all (fun t => decide (t ≠ x)) = true) :
    InT E m sS k0 fs (i + 1) (semSet i sem) T0 (.seq c (.seq (.region r0 #[⟨some t1, .move (.tmp sS), y0, q0, e0, none⟩, ⟨some t2, .move (.tmp x), y1, q1, e1, none⟩, ⟨some t3, .nilCheck (.tmp t1), y2, q2, e2, none⟩, ⟨some t4, .fieldAddr T (.tmp t3) idx, y3, q3, e3, none⟩, ⟨none, .store ty (.tmp t4) (.tmp t2), y4, q4, e4, none⟩] false) T0)) := by
  intro a w O R B p st s Q hB hP hn hr
  refine wp_seq (wp_mono (h a w O R st hB) ?_)
  intro e a1 w1 hq
  cases e <;> try exact hq.elim
  refine wp_seq (wp_mono (wp_put hB hP hq hf hF hsl hx) ?_)
  intro e a2 w2 hq2
  cases e <;> try exact hq2.elim
  · exact hn a2 w2 hq2
  · exact hr a2 w2 hq2
theorem it_pre {z : Value} (h : InT E m sS k0 fs I semS T0 c) (hsl : rsl E m [t] [sS] = true) : InT E m sS k0 fs I semS T0 (.seq (.region r0 #[⟨some t, .assign (.const z), y0, q0, e0, none⟩] false) c) := by
  obtain ⟨hm, hw, hr, hnd⟩ := zau hsl
  simp only [List.mem_cons, List.not_mem_nil, or_false, forall_eq] at hw hr
  intro a w O R B p st s Q hB hP hn hrt
  refine wp_seq_k fun K hK => ?_
  refine zai ?_
  refine zak ?_
  refine zah (hK _ _ ?_)
  have hk : zam (RS m) a (a.put (some t) (a.eval (.const z))) := (zam.refl _ _).put hw.1 _
  refine h _ w O R B p st s Q (hB.next hm hk (Chg.refl (fun _ => False) _) (fun _ h => h.elim) hB.rs (Nat.le_refl _)) ⟨(hk.slot _ ⟨hr.1, hr.2⟩).trans hP.pt, hP.at_, hP.oB, hP.ne⟩ (fun a' w' hq => hn a' w' ?_) (fun a' w' hq => hrt a' w' hq)
  obtain ⟨h1, h2⟩ := hq
  exact ⟨hk.trans h1, h2⟩
end
end Go.Proofs.YtojpodeljpfgaabDoor
namespace Go.Proofs.YtojpodeljpfgaabDoor
set_option linter.all false
open Go.RowKit
set_option maxRecDepth 10000
set_option maxHeartbeats 4000000
theorem run_appFit {P : Program} {w : World} {t ti ty e : TypeId} {i : TypeInfo} {z : Value} {k k' : IntKind} (ht : P.underlying t = some (.slice e)) (hti : P.underlying ti = some (.int k')) (hi : P.info? e = some i) (hz : zeroB P e z) {b : Nat} {cs : List Value} {T : TypeId} (hbk : Blk w b cs T) (c n : Nat) (h0 : 0 < n) (hc : n ≤ c)
    (hn : n ≤ 1073741824) (hb : i.bytes ≤ 65536) (hs : 0 < i.size) (hzs : z.cells.size = i.size) (hone : ∀ x ∈ z.cells.toList, x.oneCell' = true) (hl : n * i.size ≤ cs.length) :
    ∃ w', (Builtin.append_ #[t, ti] ty #[.slice (some ⟨b, 0, none⟩) 0 c, .int k n]).run P w = .ok (.slice (some ⟨b, 0, none⟩) n c) w' ∧ Blk w' b (zas cs 0 (Builtin.zeroCells z.cells n).toList) T ∧ Chg (fun k => k = b) w w' := by
  have h1 : IntKind.i64.wrap (n : Int) = n := i64_sm _ (by omega)
  have h2 : ¬ ((n : Int) < 0) := by omega
  have hb2 : n * i.bytes ≤ 70368744177664 := Nat.le_trans (Nat.mul_le_mul hn hb) (by decide)
  have h3 : ¬ ((n : Int) * (i.bytes : Int) > 281474976710656) := by
    have e : (n : Int) * (i.bytes : Int) = ((n * i.bytes : Nat) : Int) := by push_cast; rfl
    rw [e]; omega
  have h7 : ¬ (n = 0 ∨ i.size = 0) := by omega
  have hone' : ∀ x ∈ (Builtin.zeroCells z.cells n).toList, x.oneCell' = true := by
    intro x hx
    simp only [Builtin.zeroCells, Array.toList_map, Array.toList_range, List.mem_map, List.mem_range] at hx
    obtain ⟨j, hj, rfl⟩ := hx
    have hlt : j % z.cells.size < z.cells.size := Nat.mod_lt _ (by omega)
    rw [getElem!_pos z.cells _ hlt]
    exact hone _ (by simp)
  have hst := run_storeCells_at (P := P) b 0 T (Builtin.zeroCells z.cells n).toList 0 cs.toArray w hbk (by rw [Array.length_toList, zeroCells_len, hzs]; simpa using hl) hone'
  have ha : (⟨b, 0, none⟩ : Addr).add 0 = ⟨b, 0, none⟩ := rfl
  refine ⟨_, ?_, hbk.setRow _, Chg.setRow w b _ fun _ => rfl⟩
  have h8 : ¬ (n * i.size = 0) := fun e => by rcases Nat.mul_eq_zero.1 e with e | e <;> omega
  simp [Builtin.append_, run_underlying ht, run_underlying hti, sizeOf, typeInfo, hi, asInt, asIntOf, h1, h2, h3, hc, h7, zeroB_run hz, ha, hst]
  intro h
  exact absurd h h8
theorem wl_roomO {ops : Array Oper} {Q : Exit → Act → World → Prop} {a : Act} {w : World} {rest : List Oper} {d : Option Nat} {ty : TypeId} {pos : String} {af : Array Edge} {t ti sz : TypeId} {z : Value} {k : IntKind} {x y : Operand} {oa : Option Addr} {n c0 : Nat}
    (ht : roomB Tryd.prog t sz = true) (hti : intTB Tryd.prog ti = true) (hz : ∀ e, (Tryd.prog).underlying t = some (.slice e) → zeroB Tryd.prog e z) (hzs : z.cells.size = sz) (hone : (z.cells.toList.all fun x => x.oneCell') = true) (hx : a.eval x = .slice oa 0 c0) (hy : a.eval y = .int k n) (h0 : 0 < n) (hn : n ≤ 1073741824)
    (hold : (oa = none ∧ c0 = 0) ∨ ∃ g cg Tg, oa = some ⟨g, 0, none⟩ ∧ Blk w g cg Tg ∧ c0 * sz ≤ cg.length)
    (h : ∀ w' b cap cs T, ((b = w.heap.size ∧ Chg (fun _ => False) w w') ∨ (oa = some ⟨b, 0, none⟩ ∧ Chg (fun k => k = b) w w')) → Blk w' b cs T → n * sz ≤ cs.length → cap * sz ≤ cs.length → (∀ j, j < n → (cs.drop (j * sz)).take sz = z.cells.toList) → WL Tryd.prog ops Q rest (a.put d (.slice (some ⟨b, 0, none⟩) n cap)) w') :
    WL Tryd.prog ops Q (⟨d, .call { callee := .builtin .append, args := #[x, y], argTypes := #[t, ti] }, ty, pos, af, none⟩ :: rest) a w := by
  unfold roomB at ht
  unfold intTB at hti
  split at ht
  · rename_i e he
    split at ht
    · rename_i i hi
      simp only [Bool.and_eq_true, beq_iff_eq, decide_eq_true_eq] at ht
      obtain ⟨⟨h1, h2⟩, h3⟩ := ht
      split at hti
      · rename_i k' hk'
        have seg : ∀ (rest : List Value) (j : Nat), j < n → (((Builtin.zeroCells z.cells n).toList ++ rest).drop (j * sz)).take sz = z.cells.toList := by
          intro rest j hj
          have hle : (j + 1) * sz ≤ n * sz := Nat.mul_le_mul_right _ hj
          rw [Nat.add_mul, Nat.one_mul] at hle
          have hl : (Builtin.zeroCells z.cells n).toList.length = n * sz := by rw [Array.length_toList, zeroCells_len, hzs]
          rw [List.drop_append_of_le_length (by rw [hl]; omega), List.take_append_of_le_length (by rw [List.length_drop, hl]; omega)]
          have := zeroCells_seg z.cells n j hj
          rwa [hzs] at this
        by_cases hc : c0 < n
        · have hr := run_appMake (w := w) (ty := ty) (k := k) he hk' hi (hz e he) oa c0 n h0 hc hn h2 (by omega)
          refine zaA rfl (by simp [execOp, resolve, invoke, builtin, hx, hy, hr]; exact ⟨rfl, rfl⟩) ?_
          have hch : Chg (fun _ => False) w (w.drew.alloc (.cells (Builtin.zeroCells z.cells n ++ Builtin.zeroCells z.cells (grownCap w n c0 e - n)) e)) := (Chg.drew _ _).trans (Chg.alloc (fun _ => False) _ _) fun _ _ h => h
          have hlen : (Builtin.zeroCells z.cells n ++ Builtin.zeroCells z.cells (grownCap w n c0 e - n)).toList.length = n * sz + (grownCap w n c0 e - n) * sz := by
            rw [Array.length_toList, Array.size_append, zeroCells_len, zeroCells_len, hzs]
          refine h _ w.heap.size (grownCap w n c0 e) (Builtin.zeroCells z.cells n ++ Builtin.zeroCells z.cells (grownCap w n c0 e - n)).toList _ (.inl ⟨rfl, hch⟩) (Blk.newA w.drew _ _) (by rw [hlen]; omega) ?_ (fun j hj => by rw [Array.toList_append]; exact seg _ j hj)
          rw [hlen, ← Nat.add_mul]
          exact Nat.mul_le_mul_right _ (by omega)
        · rcases hold with ⟨_, h4⟩ | ⟨g, cg, Tg, rfl, hbg, hcg⟩
          · omega
          · have hns : n * sz ≤ cg.length := Nat.le_trans (Nat.mul_le_mul_right _ (by omega)) hcg
            obtain ⟨w', hr, hb', hch⟩ := run_appFit (w := w) (ty := ty) (k := k) he hk' hi (hz e he) hbg c0 n h0 (by omega) hn h2 (by omega) (by rw [hzs, h1]) (fun x hx => List.all_eq_true.1 hone x hx) (by rw [h1]; exact hns)
            refine zaA rfl (v := .slice (some ⟨g, 0, none⟩) n c0) (w' := w') (by simp [execOp, resolve, invoke, builtin, hx, hy, hr]) ?_
            have hzl : (Builtin.zeroCells z.cells n).toList.length = n * sz := by rw [Array.length_toList, zeroCells_len, hzs]
            have hsl : (zas cg 0 (Builtin.zeroCells z.cells n).toList).length = cg.length := zaG (by rw [hzl]; omega)
            refine h w' g c0 _ _ (.inr ⟨rfl, hch⟩) hb' (by rw [hsl]; exact hns) (by rw [hsl]; exact hcg) fun j hj => ?_
            have e : zas cg 0 (Builtin.zeroCells z.cells n).toList = (Builtin.zeroCells z.cells n).toList ++ cg.drop (0 + (Builtin.zeroCells z.cells n).toList.length) := by simp [zas]
            rw [e]
            exact seg _ j hj
      · cases hti
    · cases ht
  · cases ht
section
variable {y0 y1 y2 y3 y4 y5 y6 y7 y8 y9 y10 y11 y12 y13 y14 y15 y16 y17 y18 y19 y20 y21 y22 y23 y24 y25 y26 y27 y28 y29 y30 y31 y32 y33 y34 y35 y36 y37 y38 y39 : TypeId} {q0 q1 q2 q3 q4 q5 q6 q7 q8 q9 q10 q11 q12 q13 q14 q15 q16 q17 q18 q19 q20 q21 q22 q23 q24 q25 q26 q27 q28 q29 q30 q31 q32 q33 q34 q35 q36 q37 q38 q39 : String} {e0 e1 e2 e3 e4 e5 e6 e7 e8 e9 e10 e11 e12 e13 e14 e15 e16 e17 e18 e19 e20 e21 e22 e23 e24 e25 e26 e27 e28 e29 e30 e31 e32 e33 e34 e35 e36 e37 e38 e39 : Array Edge} {r0 r1 r2 r3 r4 r5 : Nat}
variable {E : REnv} {m sS k0 i I x aS iS lS t t1 t2 t3 t4 t5 t6 t7 sz b1 b2 u : Nat} {one : Bs → Option (D × Bs)} {rep : Rep} {zc : List Value} {c body : Code}
structure LInvL (E : REnv) (m sz : Nat) (one : Bs → Option (D × Bs)) (rep : Rep) (zc : List Value) (n : Nat) (a0 : Act) (w0 : World) (O : Nat → Prop) (R b : Nat) (st : Option Bs) (T : TypeId) (l0 j : Nat) (a : Act) (w : World) : Prop where
  keep : zam (RS m) a0 a
  chg : Chg (fun k => k = R ∨ k = b) w0 w
  rs : RdS w (fun g => ¬ O g) R ((st.bind (zaN one j)).map (·.2))
  len : stLen ((st.bind (zaN one j)).map (·.2)) ≤ stLen st
  val : ∃ cs xs, Blk w b cs T ∧ (cs.length = l0 ∧ n * sz ≤ cs.length) ∧ xs.length = j ∧ (∀ k x, xs[k]? = some x → rep w (fun g => ¬ O g) x ((cs.drop (k * sz)).take sz)) ∧ (∀ k, j ≤ k → k < n → (cs.drop (k * sz)).take sz = zc) ∧ ∀ y, st.bind (zaN one j) = some y → xs = y.1
theorem rd_loopL {n cap : Nat} (hrep : RepStay rep) (hbody : ElC E m aS iS sz one rep zc body) (hsl : rsl E m [t1, t2, t3, t4, t5] [E.rr, aS, iS, lS] = true) (hsl2 : rsl E iS [iS] [aS, lS] = true)
    {a : Act} {w : World} {O : Nat → Prop} {R b : Nat} {st : Option Bs} {cs : List Value} {T : TypeId} {Q : Exit → Act → World → Prop} (hB : RB E a w O R st) (hOb : O b) (hne : R ≠ b) (ha : get a aS = .slice (some ⟨b, 0, none⟩) n cap) {L : Int} (hl : get a lS = .int .i32 L) (hL : n = L.toNat) (hn : n ≤ 1073741824) (hb : Blk w b cs T)
    (hlen : n * sz ≤ cs.length) (hz : ∀ k, k < n → (cs.drop (k * sz)).take sz = zc)
    (hQ : ∀ a' w', LInvL E iS sz one rep zc n a w O R b st T cs.length n a' w' → Q .normal a' w') (hF : ∀ a' w', RFail O w (st.bind (zaN one n) = none) a' w' → Q .ret a' w') :
    (Code.seq (.region r0 #[⟨some iS, .assign (.const (.int .i32 0)), y0, q0, e0, none⟩] false) (.block b1 (.loop (.seq (.seq (.region r1 #[⟨some t1, .move (.tmp iS), y1, q1, e1, none⟩, ⟨some t2, .move (.tmp lS), y2, q2, e2, none⟩, ⟨some t3, .binOp .lss u (.tmp t1) (.tmp t2) u, y3, q3, e3, none⟩] false) (.cond (.tmp t3) .skip (.exit b1)))
      (.seq (.block b2 body) (.region r2 #[⟨some t4, .move (.tmp iS), y4, q4, e4, none⟩, ⟨some t5, .binOp .add u (.tmp t4) (.const (.int .i32 1)) u, y5, q5, e5, none⟩, ⟨some iS, .assign (.tmp t5), y6, q6, e6, none⟩] false)))))).wp Tryd.prog Q a w := by
  obtain ⟨hm, hw, hr, hnd⟩ := zau hsl
  obtain ⟨hm2, hw2, hr2, _⟩ := zau hsl2
  simp only [List.mem_cons, List.not_mem_nil, or_false, forall_eq_or_imp, forall_eq, List.nodup_cons, not_or, List.nodup_nil, and_true, not_false_eq_true] at hw hnd hr hw2 hr2
  have hnr := nodup_rev (zau hsl).2.2.2
  simp only [List.reverse_cons, List.reverse_nil, List.nil_append, List.cons_append, List.mem_cons, List.not_mem_nil, or_false, List.nodup_cons, not_or, List.nodup_nil, and_true, not_false_eq_true] at hnr
  have ev : ∀ {d t : Nat} {a : Act} {v : Value}, d < a.tmps.size → get (a.put (some d) v) t = if d = t then v else get a t := fun h => get_put h
  have hE : ∀ t, m ≤ t → ¬ t = iS ∧ ¬ t = lS ∧ ¬ t = aS ∧ ¬ t < iS := fun t ht => by have := hr.2.1.1; have := hr.2.2.1.1; have := hr.2.2.2.1; omega
  have hN := hB.ok.1
  have hiS : iS < m := hr.2.2.1.1
  have hiN : iS < E.N := hw2.2.1
  have nia : ¬ iS = aS := by have := hr2.1.1; omega
  have nil : ¬ iS = lS := by have := hr2.2.1; omega
  refine wp_seq_k fun K hK => ?_
  refine zai ?_
  refine zak ?_
  refine zah (hK _ _ ?_)
  clear hK K
  refine wp_block ?_
  refine wp_loop (fun a' w' => ∃ j : Nat, j ≤ n ∧ get a' iS = .int .i32 j ∧ LInvL E iS sz one rep zc n a w O R b st T cs.length j a' w') (fun a' _ => n - (intOf (get a' iS)).toNat) ?_ ?_
  · refine ⟨0, Nat.zero_le _, by rw [zaa (by rw [hN]; exact hiN)]; rfl, (zam.refl _ _).put hw2.1 _, Chg.refl _ _, ?_, ?_, cs, [], hb, ⟨rfl, hlen⟩, rfl, fun k x h => by simp at h, fun k _ hk => hz k hk, fun y hy => ?_⟩
    · have : (st.bind (zaN one 0)).map (·.2) = st := by cases st <;> rfl
      rw [this]; exact hB.rs
    · have : (st.bind (zaN one 0)).map (·.2) = st := by cases st <;> rfl
      rw [this]; exact Nat.le_refl _
    · cases st with
      | none => cases hy
      | some bs => simp only [zaN, Option.bind_some, Option.some.injEq] at hy; rw [← hy]
  rintro a1 w1 ⟨j, hj, gi, hk, hc, hrs, hll, cs1, xs, hb1, hlen1, hxl, hx, hz1, hy1⟩
  have hN1 : a1.tmps.size = E.N := hk.size.trans hN
  have gl : get a1 lS = .int .i32 L := (hk.slot _ hr2.2).trans hl
  have ga : get a1 aS = .slice (some ⟨b, 0, none⟩) n cap := (hk.slot _ hr2.1).trans ha
  have hB1 : RB E a1 w1 O R ((st.bind (zaN one j)).map (·.2)) := hB.next hm2 hk hc (fun k h => by rcases h with rfl | rfl; exact hB.oR; exact hOb) hrs hll
  refine wp_seq_k fun K hK => ?_
  refine wp_seq_k fun K2 hK2 => ?_
  refine zai ?_
  refine zal ?_
  rw [zac, gi]
  refine zal ?_
  rw [zac, ev (by rw [hN1]; exact hw.1.2.1), if_neg (hE t1 hw.1.2.2).2.1, gl]
  refine wl_lss (by simp only [zac, ev, zae, hN1, hw, hnd, hnr, if_true, if_false]; rfl) ?_
  simp only [zac, ev, zae, hN1, hw, hnd, hnr, if_true, if_false, cmp2]
  refine zah (hK2 _ _ ?_)
  clear hK2 K2
  have hkt : ∀ (v1 v2 v3 : Value), zam (RS m) a1 (((a1.put (some t1) v1).put (some t2) v2).put (some t3) v3) := fun v1 v2 v3 => (((zam.refl _ _).put hw.1.1 _).put hw.2.1.1 _).put hw.2.2.1.1 _
  by_cases hlt : j < n
  · have e1 : decide ((j : Int) < L) = true := decide_eq_true (by omega)
    rw [e1]
    refine wp_cond_true (by simp only [zac, ev, zae, hN1, hw, hnd, hnr, if_true, if_false]) ?_
    refine wp_skip (hK _ _ ?_)
    clear hK K
    refine wp_seq_k fun K hK => ?_
    refine wp_block ?_
    have hk2 := hkt (.int .i32 j) (.int .i32 L) (.bool true)
    have hB2 := hB1.next hm hk2 (Chg.refl (fun _ => False) _) (fun _ h => h.elim) hB1.rs (Nat.le_refl _)
    refine wp_mono (hbody _ w1 O R b j n cap _ cs1 T hB2 hOb hne ((hk2.slot _ hr.2.1).trans ga) ((hk2.slot _ hr.2.2.1).trans gi) hlt hb1 hlen1.2 (hz1 j (Nat.le_refl _) hlt)) ?_
    intro e a2 w2 hq
    have hsn : st.bind (zaN one (j + 1)) = (st.bind (zaN one j)).bind fun y => (one y.2).map fun x => (y.1 ++ [x.1], x.2) := by
      cases st with
      | none => rfl
      | some bs => exact rMany_snoc one j bs
    cases e <;> try exact hq.elim
    · obtain ⟨q1, q2, q3, q4, cs2, x, q5, q6, q7, q8, q9⟩ := hq
      refine hK _ _ ?_
      clear hK K
      have hN2 : a2.tmps.size = E.N := q1.size.trans (hk2.size.trans hN1)
      have gi2 : get a2 iS = .int .i32 j := (q1.slot _ hr.2.2.1).trans ((hk2.slot _ hr.2.2.1).trans gi)
      refine zai ?_
      refine zal ?_
      rw [zac, gi2]
      refine wl_add (by simp only [zac, zaf, ev, zae, hN2, hw, if_true]; rfl) ?_
      simp only [zac, zaf, ev, zae, hN2, hw, if_true, add2]
      refine zak ?_
      simp only [zac, ev, zae, hN2, hw, if_true]
      have hw32 : IntKind.i32.wrap ((j : Int) + 1) = ((j + 1 : Nat) : Int) := by rw [i32_wrap]; unfold zaC; omega
      rw [hw32]
      refine zah ?_
      have hlow : zam (RS iS) a1 a2 := (hk2.trans q1).mono fun t ht => ⟨by have := ht.1; omega, ht.2⟩
      have hnot : ∀ t, m ≤ t → ¬ RS iS t := fun t ht h => (hE t ht).2.2.2 h.1
      have est : (st.bind (zaN one (j + 1))).map (·.2) = (((st.bind (zaN one j)).map (·.2)).bind one).map (·.2) := by
        rw [hsn]
        cases st.bind (zaN one j) with
        | none => rfl
        | some y =>
          simp only [Option.bind_some, Option.map_some]
          cases one y.2 with
          | none => rfl
          | some z => rfl
      have hst : Stay w1 w2 (fun g => ¬ O g) (fun g => ¬ O g) := Stay.of q2 fun k hk' _ h => hk' (by rcases h with rfl | rfl; exact hB.oR; exact hOb)
      refine ⟨⟨j + 1, hlt, by rw [zaa (by simp only [zae, hN2]; exact hiN)], (((hk.trans hlow).put (hnot t4 hw.2.2.2.1.2.2) _).put (hnot t5 hw.2.2.2.2.2.2) _).put hw2.1 _, hc.trans q2 fun _ _ h => h, by rw [est]; exact q3, by rw [est]; exact Nat.le_trans q4 hll,
        cs2, xs ++ [x], q5, by rw [q6]; exact hlen1, by rw [List.length_append, hxl]; rfl, fun k y hy => ?_, fun k hk1 hk2' => ?_, fun y hy => ?_⟩, ?_⟩
      · by_cases hkj : k < xs.length
        · rw [List.getElem?_append_left hkj] at hy
          rw [seg_same q7 (by omega)]
          exact hrep _ _ _ _ _ _ hst (hx k y hy)
        · rw [List.getElem?_append_right (by omega)] at hy
          have hk0 : k - xs.length = 0 := by
            cases hh : k - xs.length with
            | zero => rfl
            | succ n => rw [hh] at hy; simp at hy
          rw [hk0] at hy
          simp at hy
          subst hy
          have : k = j := by omega
          subst this
          exact q8
      · rw [seg_same q7 (by omega)]
        exact hz1 k (by omega) hk2'
      · rw [hsn] at hy
        cases hh : st.bind (zaN one j) with
        | none => rw [hh] at hy; cases hy
        | some z =>
          rw [hh] at hy q9
          simp only [Option.bind_some, Option.map_some] at hy q9
          cases h1 : one z.2 with
          | none => rw [h1] at hy; cases hy
          | some v =>
            rw [h1] at hy
            simp only [Option.map_some, Option.some.injEq] at hy
            rw [← hy, hy1 z hh, q9 v h1]
      · simp only [gi, intOf]
        rw [zaa (by simp only [zae, hN2]; exact hiN)]
        simp only [intOf]
        omega
    · obtain ⟨f1, f2, f3, f4⟩ := hq
      refine hF a2 w2 ⟨f1, f2, ?_, (hc.mono fun k _ h => by rcases h with rfl | rfl; exact hB.oR; exact hOb : Chg O w w1).trans f4 fun _ _ h => h⟩
      cases hst : st with
      | none => rfl
      | some bs =>
        rw [hst] at f3 hsn
        simp only [Option.bind_some] at f3 hsn ⊢
        have hn1 : zaN one (j + 1) bs = none := by
          rw [hsn]
          cases hh : zaN one j bs with
          | none => rfl
          | some y =>
            rw [hh] at f3
            simp only [Option.map_some, Option.bind_some] at f3 ⊢
            rw [f3]; rfl
        exact rMany_none one bs hn1 n hlt
  · have e1 : decide ((j : Int) < L) = false := decide_eq_false (by omega)
    rw [e1]
    have ej : j = n := by omega
    subst ej
    refine wp_cond_false (by simp only [zac, ev, zae, hN1, hw, hnd, hnr, if_true, if_false]) ?_
    refine wp_exit ?_
    simp only [Exit.then, Exit.inBlock, if_pos]
    exact hQ _ _ ⟨hk.trans ((hkt _ _ _).mono fun t ht => ⟨by have := ht.1; omega, ht.2⟩), hc, hrs, hll, cs1, xs, hb1, hlen1, hxl, hx, fun k h1 h2 => by omega, hy1⟩
end
def OldB (w : World) (O : Nat → Prop) (R B sz : Nat) (oa : Option Addr) (c0 : Nat) : Prop := (oa = none ∧ c0 = 0) ∨ ∃ g cg Tg, oa = some ⟨g, 0, none⟩ ∧ O g ∧ R ≠ g ∧ B ≠ g ∧ Blk w g cg Tg ∧ c0 * sz ≤ cg.length
def ListQ (E : REnv) (m sz off : Nat) (f : Fld) (a : Act) (w : World) (O : Nat → Prop) (R B : Nat) (st : Option Bs) (cs : List Value) (T : TypeId) (oa : Option Addr) (a' : Act) (w' : World) : Prop :=
  zam (RS m) a a' ∧ Chg (fun k => k = R ∨ k = B ∨ oa = some ⟨k, 0, none⟩) w w' ∧ RdS w' (fun g => ¬ O g) R ((st.bind (decF E.flex E.ver f)).map (·.2)) ∧ stLen ((st.bind (decF E.flex E.ver f)).map (·.2)) ≤ stLen st ∧
  ∃ oa' xs c', Blk w' B (zas cs off [.slice oa' xs.length c']) T ∧ RepF w' (fun k => ¬ O k ∨ oa' = some ⟨k, 0, none⟩) E.fl f (.arr oa'.isNone xs) [.slice oa' xs.length c'] ∧ (∀ y, st.bind (decF E.flex E.ver f) = some y → ∃ b, y.1 = .arr b xs ∧ ((b = oa'.isNone ∧ xs ≠ []) ∨ (xs = [] ∧ oa' = oa))) ∧
    ((oa' = none ∧ c' = 0) ∨ ∃ g cg Tg, oa' = some ⟨g, 0, none⟩ ∧ (oa = some ⟨g, 0, none⟩ ∨ (w.heap.size ≤ g ∧ ¬ O g)) ∧ Blk w' g cg Tg ∧ c' * sz ≤ cg.length)
section
variable {y0 y1 y2 y3 y4 y5 y6 y7 y8 y9 y10 y11 y12 y13 y14 y15 y16 y17 y18 y19 y20 y21 y22 y23 y24 y25 y26 y27 y28 y29 y30 y31 y32 y33 y34 y35 y36 y37 y38 y39 : TypeId} {q0 q1 q2 q3 q4 q5 q6 q7 q8 q9 q10 q11 q12 q13 q14 q15 q16 q17 q18 q19 q20 q21 q22 q23 q24 q25 q26 q27 q28 q29 q30 q31 q32 q33 q34 q35 q36 q37 q38 q39 : String} {e0 e1 e2 e3 e4 e5 e6 e7 e8 e9 e10 e11 e12 e13 e14 e15 e16 e17 e18 e19 e20 e21 e22 e23 e24 e25 e26 e27 e28 e29 e30 e31 e32 e33 e34 e35 e36 e37 e38 e39 : Array Edge} {r0 r1 r2 r3 r4 r5 : Nat}
variable {r6 r7 r8 r9 r10 r11 r12 r13 : Nat}
variable {E : REnv} {m mB sS k0 i I x y ys aS iS lS vS t1 t2 t3 t4 t5 t6 t7 t8 t9 t10 t11 t12 t13 t14 t15 t16 t17 w1' w2' w3' w4' w5' u1 u2 u3 u4 u5 v1 v2 v3 v4 b1 b2 ug uo uc ui : Nat} {fs sub : List Fld} {pre : S → Prop} {c c1 c2 body cl cn cr T0 : Code} {us us2 us3 : Array TypeId} {fn : FuncId} {T ty ti idx off ua uoT tyV tyW tyE sz : Nat} {a1 a2 a3 a4 a5 : Int} {of : K} {z : Value} {f : Fld} {sem : Bs → Option (D × Bs)} {tl semS : Sem}
theorem wp_putO {a0 a : Act} {w0 w : World} {O : Nat → Prop} {R B p : Nat} {st : Option Bs} {Q : Exit → Act → World → Prop} {cs : List Value} {oa oa' : Option Addr} {xs : List D} {c' : Nat} {Tb : TypeId}
    (hn : ∀ a' w', ListQ E m (eszR E of sub) (p + (k0 + foff E.fl fs i)) (.mk .list a1 a2 a3 a4 a5 of sub) a0 w0 O R B st cs Tb oa a' w' → T0.wp Tryd.prog Q a' w')
    (hok : ROK E a0) (gS : get a0 sS = .pointer (some ⟨B, p, none⟩)) (oB : O B) (ne : R ≠ B) (hbB : Blk w B cs Tb) (hlen : p + (k0 + foff E.fl fs i) + 1 ≤ cs.length) (hk : zam (RS m) a0 a) (hc : Chg (fun k => k = R ∨ oa = some ⟨k, 0, none⟩) w0 w) (ga : get a aS = .slice oa' xs.length c')
    (hrs : RdS w (fun g => ¬ O g) R ((st.bind (decF E.flex E.ver (.mk .list a1 a2 a3 a4 a5 of sub))).map (·.2))) (hll : stLen ((st.bind (decF E.flex E.ver (.mk .list a1 a2 a3 a4 a5 of sub))).map (·.2)) ≤ stLen st)
    (hrep : RepF w (fun k => ¬ O k ∨ oa' = some ⟨k, 0, none⟩) E.fl (.mk .list a1 a2 a3 a4 a5 of sub) (.arr oa'.isNone xs) [.slice oa' xs.length c']) (hy : ∀ y, st.bind (decF E.flex E.ver (.mk .list a1 a2 a3 a4 a5 of sub)) = some y → ∃ b, y.1 = .arr b xs ∧ ((b = oa'.isNone ∧ xs ≠ []) ∨ (xs = [] ∧ oa' = oa)))
    (how : (oa' = none ∧ c' = 0) ∨ ∃ g cg Tg, oa' = some ⟨g, 0, none⟩ ∧ B ≠ g ∧ (oa = some ⟨g, 0, none⟩ ∨ (w0.heap.size ≤ g ∧ ¬ O g)) ∧ Blk w g cg Tg ∧ c' * (eszR E of sub) ≤ cg.length)
    (hF : (zaR Tryd.prog T idx (k0 + foff E.fl fs i) 1 && sizeB Tryd.prog ty 1) = true) (s6 : rsl E m [t11, vS] [] = true) (s7 : rsl E m [v1, v2, v3, v4] [sS, E.rr] = true)
    (s8 : [v1, v2, v3, v4].all (fun t => decide (t ≠ vS)) = true) :
    (Code.seq (.region r8 #[⟨some t11, .move (.tmp aS), y0, q0, e0, none⟩, ⟨some vS, .assign (.tmp t11), y1, q1, e1, none⟩] false) (.seq (.region r9 #[⟨some v1, .move (.tmp sS), y2, q2, e2, none⟩, ⟨some v2, .move (.tmp vS), y3, q3, e3, none⟩, ⟨some v3, .nilCheck (.tmp v1), y4, q4, e4, none⟩, ⟨some v4, .fieldAddr T (.tmp v3) idx, y5, q5, e5, none⟩, ⟨none, .store ty (.tmp v4) (.tmp v2), y6, q6, e6, none⟩] false) T0)).wp Tryd.prog Q a w := by
  simp only [Bool.and_eq_true] at hF
  obtain ⟨hm, hw, hr, hnd⟩ := zau s7
  obtain ⟨_, hw6, _, hnd6⟩ := zau s6
  have hnr := nodup_rev hnd
  simp only [List.reverse_cons, List.reverse_nil, List.nil_append, List.cons_append, List.mem_cons, List.not_mem_nil, or_false, List.nodup_cons, not_or, List.nodup_nil, and_true, not_false_eq_true] at hnr
  simp only [List.mem_cons, List.not_mem_nil, or_false, forall_eq_or_imp, forall_eq, List.nodup_cons, not_or, List.nodup_nil, and_true, not_false_eq_true, List.all_cons, List.all_nil, Bool.and_true, Bool.and_eq_true, decide_eq_true_eq] at hw hnd hr s8 hw6 hnd6
  have hN : a.tmps.size = E.N := hk.size.trans hok.1
  have gS2 : get a sS = .pointer (some ⟨B, p, none⟩) := (hk.slot _ ⟨hr.1.1, hr.1.2⟩).trans gS
  have nA : ∀ t, m ≤ t → ¬ t = sS := fun t ht => by have := hr.1.1; omega
  refine wp_seq_k fun K hK => ?_
  refine zai ?_
  refine zal ?_
  refine zak ?_
  rw [zac, zac, zaa (by rw [hN]; exact hw6.1.2.1), ga]
  refine zah (hK _ _ ?_)
  clear hK K
  obtain ⟨a2, ha2⟩ : ∃ a2, a2 = (a.put (some t11) (.slice oa' xs.length c')).put (some vS) (.slice oa' xs.length c') := ⟨_, rfl⟩
  rw [← ha2]
  have hN2 : a2.tmps.size = E.N := by rw [ha2]; simp only [zae, hN]
  have gv2 : get a2 vS = .slice oa' xs.length c' := by rw [ha2, zaa (by rw [zae, hN]; exact hw6.2.2.1)]
  have gS3 : get a2 sS = .pointer (some ⟨B, p, none⟩) := by rw [ha2, zab (nA vS hw6.2.2.2), zab (nA t11 hw6.1.2.2)]; exact gS2
  have hk2 : zam (RS m) a0 a2 := by rw [ha2]; exact (hk.put hw6.1.1 _).put hw6.2.1 _
  clear ha2
  have ev : ∀ {d t : Nat} {a : Act} {v : Value}, d < a.tmps.size → get (a.put (some d) v) t = if d = t then v else get a t := fun h => get_put h
  refine wp_seq_k fun K hK => ?_
  refine zai ?_
  refine zal ?_
  rw [zac, gS3]
  refine zal ?_
  rw [zac, zab s8.1, gv2]
  refine zaI (p := ⟨B, p, none⟩) (by simp only [zac, ev, zae, hN2, hw, hnd, hnr, if_true, if_false]) ?_
  refine zaE (b := B) (o := p) hF.1 (by simp only [zac, ev, zae, hN2, hw, hnd, hnr, if_true, if_false]) ?_
  refine zaX (b := B) (o := p + (k0 + foff E.fl fs i)) (n := 1) (v := .slice oa' xs.length c') hF.2 (by simp only [zac, ev, zae, hN2, hw, hnd, hnr, if_true, if_false]) (by simp only [zac, ev, zae, hN2, hw, hnd, hnr, if_true, if_false]) hbB rfl (by intro y hy; simp only [Value.cells] at hy; simp at hy; subst hy; rfl) hlen fun w2 hb2 hc2 => ?_
  refine zah (hK _ _ (hn _ _ ?_))
  clear hK K
  have hX : ∀ k, ¬ O k → k < w.heap.size → ¬ k = B := fun k hk _ e => hk (e ▸ oB)
  have st2 : Stay w w2 (fun g => ¬ O g) (fun g => ¬ O g) := Stay.of hc2 hX
  have nB : ∀ k, oa' = some ⟨k, 0, none⟩ → ¬ k = B := by
    intro k e1 e2
    rcases how with ⟨h1, _⟩ | ⟨g, _, _, h1, h2, _⟩
    · rw [h1] at e1; cases e1
    · rw [h1] at e1; cases e1; exact h2 e2.symm
  refine ⟨((((hk2.put hw.1.1 _).put hw.2.1.1 _).put hw.2.2.1.1 _).put hw.2.2.2.1 _), (hc.mono fun k _ h => by rcases h with h | h; exact .inl h; exact .inr (.inr h)).trans (hc2.mono fun _ _ h => Or.inr (Or.inl h)) fun _ _ h => h, hrs.stay st2 (hc2.block R hrs.lt ne), hll, oa', xs, c', hb2, ?_, hy, ?_⟩
  · refine RepF.stay (Stay.of hc2 fun k hk _ e => ?_) hrep
    rcases hk with h | h
    · exact h (e ▸ oB)
    · exact nB k h e
  · rcases how with h | ⟨g, cg, Tg, h1, h2, h3, h4, h5⟩
    · exact .inl h
    · exact .inr ⟨g, cg, Tg, h1, h3, h4.chg hc2 fun e => h2 e.symm, h5⟩
theorem itO_head (hf : fs[i]? = some (.mk .list a1 a2 a3 a4 a5 of sub)) (hF : (decide (fsz E.fl (.mk .list a1 a2 a3 a4 a5 of sub) = 1) && zaR Tryd.prog T idx (k0 + foff E.fl fs i) 1 && scalB Tryd.prog tyV) = true) (hl : RnC E lS lS cl)
    (s1 : rsl E m [w1', w2', w3', w4', vS, w5', aS, lS] [sS, E.rr] = true) (s2 : (decide (aS < lS) && decide (aS ≠ 6) && decide (m ≤ lS)) = true)
    {a : Act} {w : World} {O : Nat → Prop} {R B p : Nat} {st : Option Bs} {cs : List Value} {Tb : TypeId} {oa : Option Addr} {n0 c0 : Nat} {Q : Exit → Act → World → Prop} (hB : RB E a w O R st) (gS : get a sS = .pointer (some ⟨B, p, none⟩)) (hbB : Blk w B cs Tb) (hv : cs[p + (k0 + foff E.fl fs i)]? = some (.slice oa n0 c0))
    (h : ∀ {a' : Act} {w' : World} {L : Int}, zam (RS m) a a' → Chg (fun k => k = R) w w' →
      RdS w' (fun g => ¬ O g) R ((st.bind (rLen E.flex)).map (·.2)) → stLen ((st.bind (rLen E.flex)).map (·.2)) ≤ stLen st → get a' lS = .int .i32 L → (∀ y, st.bind (rLen E.flex) = some y → L = y.1) → get a' aS = .slice oa n0 c0 →
      cr.wp Tryd.prog Q a' w') :
    (Code.seq (.region r0 #[⟨some w1', .move (.tmp sS), y0, q0, e0, none⟩, ⟨some w2', .nilCheck (.tmp w1'), y1, q1, e1, none⟩, ⟨some w3', .fieldAddr T (.tmp w2') idx, y2, q2, e2, none⟩, ⟨some w4', .load tyV (.tmp w3'), y3, q3, e3, none⟩, ⟨some vS, .assign (.tmp w4'), y4, q4, e4, none⟩] false)
        (.seq (.region r1 #[⟨some w5', .move (.tmp vS), y5, q5, e5, none⟩, ⟨some aS, .assign (.tmp w5'), y6, q6, e6, none⟩] false)
          (.seq (.region r2 #[⟨some lS, .assign (.const (.int .i32 0)), y7, q7, e7, none⟩] false) (.seq cl cr)))).wp Tryd.prog Q a w := by
  simp only [Bool.and_eq_true, decide_eq_true_eq] at hF s2
  obtain ⟨⟨f1, f2⟩, f3⟩ := hF
  obtain ⟨hm, hw, hr, hnd⟩ := zau s1
  have hnr := nodup_rev hnd
  simp only [List.reverse_cons, List.reverse_nil, List.nil_append, List.cons_append, List.mem_cons, List.not_mem_nil, or_false, List.nodup_cons, not_or, List.nodup_nil, and_true, not_false_eq_true] at hnr
  simp only [List.mem_cons, List.not_mem_nil, or_false, forall_eq_or_imp, forall_eq, List.nodup_cons, not_or, List.nodup_nil, and_true, not_false_eq_true] at hw hnd hr
  have hN := hB.ok.1
  have ev : ∀ {d t : Nat} {a : Act} {v : Value}, d < a.tmps.size → get (a.put (some d) v) t = if d = t then v else get a t := fun h => get_put h
  refine wp_seq_k fun K hK => ?_
  refine zai ?_
  refine zal ?_
  rw [zac, gS]
  refine zaI (p := ⟨B, p, none⟩) (by simp only [zac, ev, zae, hN, hw, hnd, hnr, if_true, if_false]) ?_
  refine zaE (b := B) (o := p) f2 (by simp only [zac, ev, zae, hN, hw, hnd, hnr, if_true, if_false]) ?_
  refine wl_load (b := B) (o := p + (k0 + foff E.fl fs i)) f3 (by simp only [zac, ev, zae, hN, hw, hnd, hnr, if_true, if_false]) hbB (v := .slice oa n0 c0) hv ?_
  refine zak ?_
  simp only [zac, ev, zae, hN, hw, if_true]
  refine zah (hK _ _ ?_)
  clear hK K
  refine wp_seq_k fun K hK => ?_
  refine zai ?_
  refine zal ?_
  simp only [zac, ev, zae, hN, hw, if_true]
  refine zak ?_
  simp only [zac, ev, zae, hN, hw, if_true]
  refine zah (hK _ _ ?_)
  clear hK K
  refine wp_seq_k fun K hK => ?_
  refine zai ?_
  refine zak ?_
  simp only [zaf]
  refine zah (hK _ _ ?_)
  clear hK K
  obtain ⟨a8, ha8⟩ : ∃ a8, a8 = ((((((((a.put (some w1') (.pointer (some ⟨B, p, none⟩))).put (some w2') (.pointer (some ⟨B, p, none⟩))).put (some w3') (.pointer (some ⟨B, p + (k0 + foff E.fl fs i), none⟩))).put (some w4') (.slice oa n0 c0)).put (some vS) (.slice oa n0 c0)).put (some w5') (.slice oa n0 c0)).put (some aS) (.slice oa n0 c0)).put (some lS) (.int .i32 0)) := ⟨_, rfl⟩
  rw [← ha8]
  have hk8 : zam (RS m) a a8 := by
    rw [ha8]
    exact ((((((((zam.refl _ _).put hw.1.1 _).put hw.2.1.1 _).put hw.2.2.1.1 _).put hw.2.2.2.1.1 _).put hw.2.2.2.2.1.1 _).put hw.2.2.2.2.2.1.1 _).put hw.2.2.2.2.2.2.1.1 _).put hw.2.2.2.2.2.2.2.1 _
  have ga8 : get a8 aS = .slice oa n0 c0 := by rw [ha8, zab (by omega), zaa (by simp only [zae, hN]; exact hw.2.2.2.2.2.2.1.2.1)]
  clear ha8
  have hB8 := hB.next hm hk8 (Chg.refl (fun _ => False) _) (fun _ h => h.elim) hB.rs (Nat.le_refl _)
  refine wp_seq (wp_mono (hl a8 w O R st hB8) ?_)
  intro e a9 w9 hq
  cases e <;> try exact hq.elim
  obtain ⟨q1, q2, q3, q4, L, q5, q6⟩ := hq
  exact h (hk8.trans (q1.mono fun t ht => ⟨by have := ht.1; omega, ht.2⟩)) q2 q3 q4 q5 q6 ((q1.slot _ ⟨s2.1.1, s2.1.2⟩).trans ga8)
theorem itO_rest (hB2 : (roomB Tryd.prog ty (eszR E of sub) && intTB Tryd.prog ti && sliceB Tryd.prog ty (eSz Tryd.prog ty) && decide (6 < E.N) && decide (a3 < 0)) = true) (hF : (zaR Tryd.prog T idx (k0 + foff E.fl fs i) 1 && sizeB Tryd.prog tyV 1) = true)
    (hz : ∀ e, (Tryd.prog).underlying ty = some (.slice e) → zeroB Tryd.prog e z) (hzs : z.cells.size = eszR E of sub) (hone : (z.cells.toList.all fun x => x.oneCell') = true)
    (hOk : zaK Tryd.prog 28) (hCo : zaK Tryd.prog 29) (hbody : ElC E mB aS iS (eszR E of sub) (oneR E of sub) (repR E of sub) z.cells.toList body)
    (s1 : rsl E iS [t1, t2, t3] [E.rr, aS, lS] = true) (s2 : rsl E iS [t4, t5] [aS, lS] = true) (s3 : rsl E iS [t6, t7, t8, t9, t10] [aS, lS] = true) (s4 : rsl E mB [u1, u2, u3, u4, u5] [E.rr, aS, iS, lS] = true) (s5 : rsl E iS [iS] [aS, lS] = true) (s6 : rsl E m [t11, vS] [] = true) (s7 : rsl E m [v1, v2, v3, v4] [sS, E.rr] = true)
    (s8 : [v1, v2, v3, v4].all (fun t => decide (t ≠ vS)) = true) (s9 : rsl E m [aS] [] = true) (s10 : (decide (m ≤ iS) && decide (aS ≠ lS)) = true)
    {a0 a : Act} {w0 w : World} {O : Nat → Prop} {R B p : Nat} {st : Option Bs} {oa : Option Addr} {n0 c0 : Nat} {L : Int} {cB : List Value} {TB : TypeId} (hB0 : RB E a0 w0 O R st) (gS : get a0 sS = .pointer (some ⟨B, p, none⟩)) (oB : O B) (ne : R ≠ B) (hbB : Blk w B cB TB) (hlenB : p + (k0 + foff E.fl fs i) + 1 ≤ cB.length)
    (hold : OldB w O R B (eszR E of sub) oa c0) (hk : zam (RS m) a0 a) (hc : Chg (fun k => k = R) w0 w)
    (hrs : RdS w (fun g => ¬ O g) R ((st.bind (rLen E.flex)).map (·.2))) (hll : stLen ((st.bind (rLen E.flex)).map (·.2)) ≤ stLen st) (gl : get a lS = .int .i32 L) (hL : ∀ y, st.bind (rLen E.flex) = some y → L = y.1) (ga : get a aS = .slice oa n0 c0)
    {Q : Exit → Act → World → Prop} (hnQ : ∀ a' w', ListQ E m (eszR E of sub) (p + (k0 + foff E.fl fs i)) (.mk .list a1 a2 a3 a4 a5 of sub) a0 w0 O R B st cB TB oa a' w' → T0.wp Tryd.prog Q a' w')
    (hrQ : ∀ a' w', RFail O w0 (st.bind (decF E.flex E.ver (.mk .list a1 a2 a3 a4 a5 of sub)) = none) a' w' → Q .ret a' w') :
    (Code.seq (.seq (.region r0 #[⟨some t1, .call { callee := .value (.func 28), args := #[.tmp E.rr], argTypes := us }, y0, q0, e0, none⟩, ⟨some t2, .unOp .not uo (.tmp t1), y1, q1, e1, none⟩] false)
        (.cond (.tmp t2) (.seq (.region r1 #[⟨some t3, .call { callee := .value (.func 29), args := #[.tmp E.rr], argTypes := us2 }, y2, q2, e2, none⟩, ⟨some 6, .assign (.tmp t3), y3, q3, e3, none⟩] false) .ret) .skip))
      (.seq (.region r2 #[⟨some t4, .move (.tmp aS), y4, q4, e4, none⟩, ⟨some t5, .slice ty (.tmp t4) none (some (.const (.int .i64 0))) none, y5, q5, e5, none⟩, ⟨some aS, .assign (.tmp t5), y6, q6, e6, none⟩] false)
      (.seq (.seq (.region r3 #[⟨some t6, .move (.tmp lS), y7, q7, e7, none⟩, ⟨some t7, .binOp .gtr ug (.tmp t6) (.const (.int .i32 0)) ug, y8, q8, e8, none⟩] false)
          (.cond (.tmp t7) (.region r4 #[⟨some t8, .move (.tmp aS), y9, q9, e9, none⟩, ⟨some t9, .move (.tmp lS), y10, q10, e10, none⟩, ⟨some t10, .call { callee := .builtin .append, args := #[.tmp t8, .tmp t9], argTypes := #[ty, ti] }, y11, q11, e11, none⟩, ⟨some aS, .assign (.tmp t10), y12, q12, e12, none⟩] false) .skip))
      (.seq (.seq (.region r5 #[⟨some iS, .assign (.const (.int .i32 0)), y13, q13, e13, none⟩] false) (.block b1 (.loop (.seq (.seq (.region r6 #[⟨some u1, .move (.tmp iS), y14, q14, e14, none⟩, ⟨some u2, .move (.tmp lS), y15, q15, e15, none⟩, ⟨some u3, .binOp .lss ua (.tmp u1) (.tmp u2) ua, y16, q16, e16, none⟩] false) (.cond (.tmp u3) .skip (.exit b1)))
          (.seq (.block b2 body) (.region r7 #[⟨some u4, .move (.tmp iS), y17, q17, e17, none⟩, ⟨some u5, .binOp .add ua (.tmp u4) (.const (.int .i32 1)) ua, y18, q18, e18, none⟩, ⟨some iS, .assign (.tmp u5), y19, q19, e19, none⟩] false))))))
        (.seq (.region r8 #[⟨some t11, .move (.tmp aS), y20, q20, e20, none⟩, ⟨some vS, .assign (.tmp t11), y21, q21, e21, none⟩] false) (.seq (.region r9 #[⟨some v1, .move (.tmp sS), y22, q22, e22, none⟩, ⟨some v2, .move (.tmp vS), y23, q23, e23, none⟩, ⟨some v3, .nilCheck (.tmp v1), y24, q24, e24, none⟩, ⟨some v4, .fieldAddr T (.tmp v3) idx, y25, q25, e25, none⟩, ⟨none, .store tyV (.tmp v4) (.tmp v2), y26, q26, e26, none⟩] false) T0)))))).wp Tryd.prog Q a w := by
  simp only [Bool.and_eq_true, decide_eq_true_eq] at hB2 s10
  obtain ⟨⟨⟨⟨hroom, hti⟩, hsl⟩, h6⟩, a3n⟩ := hB2
  obtain ⟨hm, hw9, _, _⟩ := zau s9
  obtain ⟨hmi, hw1, hr1, _⟩ := zau s1
  obtain ⟨_, hw2, hr2, hnd2⟩ := zau s2
  obtain ⟨_, hw3, hr3, hnd3⟩ := zau s3
  simp only [List.mem_cons, List.not_mem_nil, or_false, forall_eq_or_imp, forall_eq, List.nodup_cons, not_or, List.nodup_nil, and_true, not_false_eq_true] at hw9 hw1 hr1 hw2 hr2 hnd2 hw3 hr3 hnd3
  have haN : aS < E.N := hw9.2.1
  have up : ∀ {a a' : Act}, zam (RS iS) a a' → zam (RS m) a a' := fun h => h.mono fun t ht => ⟨by have := ht.1; omega, ht.2⟩
  have hBa : RB E a w O R ((st.bind (rLen E.flex)).map (·.2)) := hB0.next hm hk hc (fun k h => by rw [h]; exact hB0.oR) hrs hll
  refine wp_seq_k fun K hK => ?_
  refine wp_ok hBa (by unfold rsl at s1 ⊢; simp only [Bool.and_eq_true, List.all_cons, List.all_nil] at s1 ⊢; exact ⟨⟨⟨s1.1.1.1, s1.1.1.2⟩, ⟨s1.1.2.1, trivial⟩⟩, s1.2⟩ : rsl E iS [t1, t2, t3] [E.rr] = true) (by simpa using h6) hOk hCo ?_ ?_
  rotate_left
  · intro hbad a' hd hif
    have hn : st.bind (rLen E.flex) = none := by
      cases hh : st.bind (rLen E.flex) with
      | none => rfl
      | some y => rw [hh] at hbad; cases hbad
    refine hrQ _ _ ⟨hd, hif, ?_, hc.mono fun k _ h => by rw [h]; exact hB0.oR⟩
    cases st with
    | none => rfl
    | some bs =>
      rw [Option.bind_some] at hn ⊢
      rw [decF_listR, hn]; rfl
  intro hgood a1' hk1
  refine hK _ _ ?_
  clear hK K
  obtain ⟨bs, hst⟩ : ∃ bs, st = some bs := by cases st with | none => exact absurd rfl hgood | some bs => exact ⟨bs, rfl⟩
  subst hst
  obtain ⟨y, hy⟩ : ∃ y, rLen E.flex bs = some y := by
    cases hh : rLen E.flex bs with
    | none => rw [Option.bind_some, hh] at hgood; exact absurd rfl hgood
    | some y => exact ⟨y, rfl⟩
  obtain ⟨L', r⟩ := y
  have eL : L = L' := hL (L', r) (by rw [Option.bind_some]; exact hy)
  subst eL
  rw [Option.bind_some, hy] at hrs hll
  change RdS w (fun g => ¬ O g) R (some r) at hrs
  change stLen (some r) ≤ stLen (some bs) at hll
  have hLr := rLen_le hy
  have hlim : r.length ≤ 1073741824 := Nat.le_trans hll hB0.lim
  have hN1 : a1'.tmps.size = E.N := hk1.size.trans hBa.ok.1
  have hkA : zam (RS m) a0 a1' := hk.trans (up hk1)
  have ga1 : get a1' aS = .slice oa n0 c0 := (hk1.slot _ hr1.2.1).trans ga
  have gl1 : get a1' lS = .int .i32 L := (hk1.slot _ hr1.2.2).trans gl
  have nal : ¬ aS = lS := s10.2
  have nt : ∀ t, iS ≤ t → ¬ t = aS ∧ ¬ t = lS := fun t ht => by have := hr1.2.1.1; have := hr1.2.2.1; omega
  have ev : ∀ {d t : Nat} {a : Act} {v : Value}, d < a.tmps.size → get (a.put (some d) v) t = if d = t then v else get a t := fun h => get_put h
  refine wp_seq_k fun K hK => ?_
  refine zai ?_
  refine zal ?_
  rw [zac, ga1]
  have e5 : (a1'.put (some t4) (.slice oa n0 c0)).eval (.tmp t4) = .slice oa n0 c0 := by rw [zac, zaa (by rw [hN1]; exact hw2.1.2.1)]
  refine zaw (by show slcOK none (some (.int .i64 0)) none ((a1'.put (some t4) (.slice oa n0 c0)).eval (.tmp t4)) = true; rw [e5]; simp [slcOK, optOK, optI]) hsl ?_
  have e6 : pv Tryd.prog w (a1'.put (some t4) (.slice oa n0 c0)).eval (.slice ty (.tmp t4) none (some (.const (.int .i64 0))) none) = .slice oa 0 c0 := by
    show slcV (eSz Tryd.prog ty) none (some (.int .i64 0)) none ((a1'.put (some t4) (.slice oa n0 c0)).eval (.tmp t4)) = _
    rw [e5]
    rcases hold with ⟨h, h'⟩ | ⟨g, _, _, h, _⟩
    · simp [slcV, optI, h, h']
    · simp [slcV, optI, h, Addr.add]
  rw [e6]
  refine zak ?_
  rw [zac, zaa (by rw [zae, hN1]; exact hw2.2.2.1)]
  refine zah (hK _ _ ?_)
  clear hK K e5 e6
  obtain ⟨a2', ha2⟩ : ∃ a2', a2' = ((a1'.put (some t4) (.slice oa n0 c0)).put (some t5) (.slice oa 0 c0)).put (some aS) (.slice oa 0 c0) := ⟨_, rfl⟩
  rw [← ha2]
  have hN2 : a2'.tmps.size = E.N := by rw [ha2]; simp only [zae, hN1]
  have hkt4 : ¬ RS m t4 := fun h => by have := h.1; have := hw2.1.2.2; omega
  have hkt5 : ¬ RS m t5 := fun h => by have := h.1; have := hw2.2.2.2; omega
  have hkB : zam (RS m) a0 a2' := by rw [ha2]; exact ((hkA.put hkt4 _).put hkt5 _).put hw9.1 _
  have ga2 : get a2' aS = .slice oa 0 c0 := by rw [ha2, zaa (by simp only [zae, hN1]; exact haN)]
  have gl2 : get a2' lS = .int .i32 L := by rw [ha2, zab nal, zab (nt t5 hw2.2.2.2).2, zab (nt t4 hw2.1.2.2).2]; exact gl1
  clear ha2
  refine wp_seq_k fun K hK => ?_
  refine wp_seq_k fun K2 hK2 => ?_
  refine zai ?_
  refine zal ?_
  rw [zac, gl2]
  have e7 : (a2'.put (some t6) (.int .i32 L)).eval (.tmp t6) = .int .i32 L := by rw [zac, zaa (by rw [hN2]; exact hw3.1.2.1)]
  refine wl_gtr (by rw [e7]; rfl) ?_
  rw [e7]
  simp only [zaf, cmp2]
  refine zah (hK2 _ _ ?_)
  clear hK2 K2 e7
  have hkt : ∀ t, iS ≤ t → ¬ RS m t := fun t ht h => by have := h.1; omega
  obtain ⟨a3', ha3⟩ : ∃ a3', a3' = ((a2'.put (some t6) (.int .i32 L)).put (some t7) (.bool (decide (0 < L)))) := ⟨_, rfl⟩
  rw [← ha3]
  have hN3 : a3'.tmps.size = E.N := by rw [ha3]; simp only [zae, hN2]
  have hkC : zam (RS m) a0 a3' := by rw [ha3]; exact (hkB.put (hkt t6 hw3.1.2.2) _).put (hkt t7 hw3.2.1.2.2) _
  have ga3 : get a3' aS = .slice oa 0 c0 := by rw [ha3, zab (nt t7 hw3.2.1.2.2).1, zab (nt t6 hw3.1.2.2).1]; exact ga2
  have gl3 : get a3' lS = .int .i32 L := by rw [ha3, zab (nt t7 hw3.2.1.2.2).2, zab (nt t6 hw3.1.2.2).2]; exact gl2
  have g7 : get a3' t7 = .bool (decide (0 < L)) := by rw [ha3, zaa (by rw [zae, hN2]; exact hw3.2.1.2.1)]
  clear ha3
  have e : (some bs : Option Bs).bind (decF E.flex E.ver (.mk .list a1 a2 a3 a4 a5 of sub)) = (zaN (oneR E of sub) L.toNat r).map fun x => (.arr (nilArr a3 E.ver L) x.1, x.2) := by
    rw [Option.bind_some, decF_listR, hy, Option.bind_some]
  have e2 : ((some bs : Option Bs).bind (decF E.flex E.ver (.mk .list a1 a2 a3 a4 a5 of sub))).map (·.2) = ((some r : Option Bs).bind (zaN (oneR E of sub) L.toNat)).map (·.2) := by
    rw [e, Option.map_map, Option.bind_some]; rfl
  have hltR : R < w.heap.size := hrs.lt
  have hltB : B < w.heap.size := hbB.lt
  have hoO : ∀ k, oa = some ⟨k, 0, none⟩ → O k ∧ R ≠ k ∧ B ≠ k := by
    intro k h
    rcases hold with ⟨h1, _⟩ | ⟨g, _, _, h1, h2, h3, h4, _⟩
    · rw [h1] at h; cases h
    · rw [h1] at h; cases h; exact ⟨h2, h3, h4⟩
  by_cases hpos : 0 < L
  · rw [decide_eq_true hpos] at g7
    refine wp_cond_true (by rw [zac]; exact g7) ?_
    obtain ⟨n, hn⟩ : ∃ n : Nat, L = n := ⟨L.toNat, by omega⟩
    subst hn
    refine zai ?_
    refine zal ?_
    rw [zac, ga3]
    refine zal ?_
    rw [zac, zab (nt t8 hw3.2.2.1.2.2).2, gl3]
    refine wl_roomO (k := .i32) (n := n) (oa := oa) (c0 := c0) hroom hti hz hzs hone (by rw [zac, zab (fun e => hnd3.2.2.1.1 e.symm), zaa (by rw [hN3]; exact hw3.2.2.1.2.1)]) (by rw [zac, zaa (by rw [zae, hN3]; exact hw3.2.2.2.1.2.1)]) (by omega) (by omega) (by
      rcases hold with h | ⟨g, cg, Tg, h1, _, _, _, h2, h3⟩
      · exact .inl h
      · exact .inr ⟨g, cg, Tg, h1, h2, h3⟩) ?_
    intro w1 b cap cs Tb hor hb1 hlen1 hcap1 hseg1
    refine zak ?_
    rw [zac, zaa (by simp only [zae, hN3]; exact hw3.2.2.2.2.2.1)]
    refine zah (hK _ _ ?_)
    clear hK K
    obtain ⟨a4', ha4⟩ : ∃ a4', a4' = ((((a3'.put (some t8) (.slice oa 0 c0)).put (some t9) (.int .i32 n)).put (some t10) (.slice (some ⟨b, 0, none⟩) n cap)).put (some aS) (.slice (some ⟨b, 0, none⟩) n cap)) := ⟨_, rfl⟩
    rw [← ha4]
    have hN4 : a4'.tmps.size = E.N := by rw [ha4]; simp only [zae, hN3]
    have hkD : zam (RS m) a0 a4' := by rw [ha4]; exact (((hkC.put (hkt t8 hw3.2.2.1.2.2) _).put (hkt t9 hw3.2.2.2.1.2.2) _).put (hkt t10 hw3.2.2.2.2.2.2) _).put hw9.1 _
    have ga4 : get a4' aS = .slice (some ⟨b, 0, none⟩) n cap := by rw [ha4, zaa (by simp only [zae, hN3]; exact haN)]
    have gl4 : get a4' lS = .int .i32 n := by rw [ha4, zab nal, zab (nt t10 hw3.2.2.2.2.2.2).2, zab (nt t9 hw3.2.2.2.1.2.2).2, zab (nt t8 hw3.2.2.1.2.2).2]; exact gl3
    clear ha4
    have hgE : gE < w.heap.size := gE_lt hBa.err
    have hc1 : Chg (fun k => oa = some ⟨k, 0, none⟩) w w1 := by
      rcases hor with ⟨_, h⟩ | ⟨h1, h⟩
      · exact h.mono fun _ _ h => h.elim
      · exact h.mono fun k _ h2 => by rw [h2]; exact h1
    have hbR : R ≠ b := by
      rcases hor with ⟨h, _⟩ | ⟨h, _⟩
      · omega
      · exact (hoO b h).2.1
    have hbB' : B ≠ b := by
      rcases hor with ⟨h, _⟩ | ⟨h, _⟩
      · omega
      · exact (hoO b h).2.2
    have hbE : gE ≠ b := by
      rcases hor with ⟨h, _⟩ | ⟨h, _⟩
      · omega
      · intro e3; exact hB0.oE (e3 ▸ (hoO b h).1)
    have hbG : ∀ k, ¬ O k → k < w.heap.size → k ≠ b := by
      intro k h1 h2
      rcases hor with ⟨h, _⟩ | ⟨h, _⟩
      · omega
      · intro e3; exact h1 (e3 ▸ (hoO b h).1)
    have hw01 : Chg (fun k => k = R ∨ oa = some ⟨k, 0, none⟩) w0 w1 := (hc.mono fun _ _ h => Or.inl h).trans (hc1.mono fun _ _ h => Or.inr h) fun _ _ h => h
    have hstW : Stay w w1 (fun g => ¬ O g) (fun g => ¬ O g) := Stay.of hc1 fun k hk _ h => hk (hoO k h).1
    have hR1 : w1.heap[R]? = w.heap[R]? := hc1.block R hltR fun h => (hoO R h).2.1 rfl
    have hB1 : RB E a4' w1 (fun g => O g ∨ g = b) R (some r) := by
      have hx := hB0.next hm hkD hw01 (fun k h => by rcases h with h | h; rw [h]; exact hB0.oR; exact (hoO k h).1) (hrs.stay hstW hR1) hll
      refine ⟨hx.ok, hx.rd, hrs.stay ⟨fun k hk hg => ⟨hc1.block k hk fun h => hg (hoO k h).1, fun h => ?_⟩⟩ hR1, .inl hx.oR, fun h => ?_, hx.err, fun k hk h => ?_, hx.lim⟩
      · rcases h with h | h
        · exact hg h
        · exact hbG k hg hk h
      · rcases h with h | h
        · exact hx.oE h
        · exact hbE h
      · rcases h with h | h
        · exact hx.new k hk h
        · have := hb1.lt; omega
    refine wp_seq_k fun K hK => ?_
    refine rd_loopL (m := mB) (repR_stay E of sub) hbody s4 s5 hB1 (.inr rfl) hbR ga4 gl4 (by omega) (by omega) hb1 hlen1 hseg1 (fun a5' w2 hinv => ?_) (fun a5' w2 hfl => ?_)
    · refine hK _ _ ?_
      clear hK K
      obtain ⟨j1, j2, j3, j4, cs2, xs, j5, j6, j7, j8, _, j9⟩ := hinv
      have hst2 : Stay w2 w2 (fun g => ¬ (O g ∨ g = b)) (fun g => ¬ O g) := Stay.sub fun k _ h => fun h2 => h (.inl h2)
      have hst3 : Stay w2 w2 (fun g => ¬ (O g ∨ g = b)) (fun g => ¬ O g ∨ (some ⟨b, 0, none⟩ : Option Addr) = some ⟨g, 0, none⟩) := Stay.sub fun k _ h => .inl fun h2 => h (.inl h2)
      have hw02 : Chg (fun k => k = R ∨ oa = some ⟨k, 0, none⟩) w0 w2 := hw01.trans j2 fun k hk h => by
        rcases h with h | h
        · exact .inl h
        · rcases hor with ⟨h1, _⟩ | ⟨h1, _⟩
          · have := hc.size; omega
          · exact .inr (h ▸ h1)
      have hbB2 : Blk w2 B cB TB := (hbB.chg hc1 fun h => (hoO B h).2.2 rfl).chg j2 fun h => by rcases h with h | h; exact ne h.symm; exact hbB' h
      rw [Int.toNat_natCast] at e e2
      refine wp_putO (xs := xs) (oa' := some ⟨b, 0, none⟩) (c' := cap) hnQ hB0.ok gS oB ne hbB2 hlenB (hkD.trans (up j1)) hw02 (by rw [j7]; exact (j1.slot _ hr1.2.1).trans ga4) (by rw [e2]; exact j3.stay hst2 rfl) (by rw [e2]; exact Nat.le_trans j4 hll)
        (repF_listR rfl (fun h => by cases h) (by omega) (.inr ⟨b, cs2, Tb, rfl, .inr rfl, j5, by rw [j7]; exact j6.2, fun k x hx => repR_stay E of sub _ _ _ _ _ _ hst3 (j8 k x hx)⟩)) (fun y h => ?_) (.inr ⟨b, cs2, Tb, rfl, hbB', ?_, j5, by rw [j6.1]; exact hcap1⟩) hF s6 s7 s8
      · rw [e] at h
        cases hh : zaN (oneR E of sub) n r with
        | none => rw [hh] at h; cases h
        | some v =>
          rw [hh] at h
          simp only [Option.map_some, Option.some.injEq] at h
          refine ⟨nilArr a3 E.ver n, ?_, .inl ⟨?_, fun e => ?_⟩⟩
          · rw [← h, j9 v (by rw [Option.bind_some]; exact hh)]
          · unfold nilArr
            rw [if_pos a3n]
            exact decide_eq_false (by omega)
          · rw [e] at j7
            simp only [List.length_nil] at j7
            omega
      · rcases hor with ⟨h1, _⟩ | ⟨h1, _⟩
        · exact .inr ⟨by have := hc.size; omega, fun h => hBa.new b (by omega) h⟩
        · exact .inl h1
    · obtain ⟨f1, f2, f3, f4⟩ := hfl
      have hcw : Chg O w0 w2 := (hw01.mono fun k _ h => by rcases h with h | h; rw [h]; exact hB0.oR; exact (hoO k h).1 : Chg O w0 w1).trans f4 fun k hk h => by
        rcases h with h | h
        · exact h
        · rcases hor with ⟨h1, _⟩ | ⟨h1, _⟩
          · have := hc.size; omega
          · exact h ▸ (hoO b h1).1
      refine hrQ _ _ ⟨f1, f2, ?_, hcw⟩
      rw [Option.bind_some] at f3
      rw [e, Int.toNat_natCast, f3]; rfl
  · rw [decide_eq_false hpos] at g7
    refine wp_cond_false (by rw [zac]; exact g7) ?_
    refine wp_skip (hK _ _ ?_)
    clear hK K
    refine wp_seq_k fun K hK => ?_
    refine rd_loop0 (m := mB) s4 s5 hN3 gl3 (by omega) fun a5' hk5 => ?_
    refine hK _ _ ?_
    clear hK K
    have h0 : L.toNat = 0 := by omega
    rw [h0] at e e2
    have em : ∀ r : Bs, zaN (oneR E of sub) 0 r = some ([], r) := fun r => rfl
    have e3 : ((some r : Option Bs).bind (zaN (oneR E of sub) 0)).map (·.2) = some r := rfl
    rw [e3] at e2
    rw [em] at e
    refine wp_putO (xs := []) (oa' := oa) (c' := c0) hnQ hB0.ok gS oB ne hbB hlenB (hkC.trans (up hk5)) (hc.mono fun _ _ h => Or.inl h) ((hk5.slot _ hr1.2.1).trans ga3) (by rw [e2]; exact hrs) (by rw [e2]; exact hll) (repF_listR rfl (fun h => ?_) (by simp) (.inl rfl)) (fun y h => ?_) ?_ hF s6 s7 s8
    · rcases hold with ⟨_, h1⟩ | ⟨g, _, _, h1, _⟩
      · exact h1
      · rw [h1] at h; cases h
    · rw [e] at h
      simp only [Option.map_some, Option.some.injEq] at h
      exact ⟨_, by rw [← h], .inr ⟨rfl, rfl⟩⟩
    · rcases hold with h | ⟨g, cg, Tg, h1, h2, h3, h4, h5, h6⟩
      · exact .inl h
      · exact .inr ⟨g, cg, Tg, h1, h4, .inl h1, h5, h6⟩
theorem it_listO (hf : fs[i]? = some (.mk .list a1 a2 a3 a4 a5 of sub))
    (hB2 : (decide (a3 < 0) && roomB Tryd.prog ty (eszR E of sub) && intTB Tryd.prog ti && sliceB Tryd.prog ty (eSz Tryd.prog ty) && decide (6 < E.N) && decide (fsz E.fl (.mk .list a1 a2 a3 a4 a5 of sub) = 1) && zaR Tryd.prog T idx (k0 + foff E.fl fs i) 1 && sizeB Tryd.prog ty 1 && scalB Tryd.prog ty) = true)
    (hz : ∃ z : Value, (∀ e, (Tryd.prog).underlying ty = some (.slice e) → zeroB Tryd.prog e z) ∧ z.cells.size = eszR E of sub ∧ (z.cells.toList.all fun x => x.oneCell') = true ∧ ElC E mB aS iS (eszR E of sub) (oneR E of sub) (repR E of sub) z.cells.toList body)
    (hOk : zaK Tryd.prog 28) (hCo : zaK Tryd.prog 29) (hl : RnC E lS lS cl)
    (hS : (rsl E m [w1', w2', w3', w4', vS, w5', aS, lS] [sS, E.rr] && (decide (aS < lS) && decide (aS ≠ 6) && decide (m ≤ lS)) && rsl E iS [t1, t2, t3] [E.rr, aS, lS] && rsl E iS [t4, t5] [aS, lS] && rsl E iS [t6, t7, t8, t9, t10] [aS, lS] &&
      rsl E mB [u1, u2, u3, u4, u5] [E.rr, aS, iS, lS] && rsl E iS [iS] [aS, lS] && rsl E m [t11, vS] [] && rsl E m [v1, v2, v3, v4] [sS, E.rr] && [v1, v2, v3, v4].all (fun t => decide (t ≠ vS)) && rsl E m [aS] [] && (decide (m ≤ iS) && decide (aS ≠ lS))) = true) :
    ∀ (a : Act) (w : World) (O : Nat → Prop) (R B p : Nat) (st : Option Bs) (cs : List Value) (Tb : TypeId) (oa : Option Addr) (n0 c0 : Nat) (Q : Exit → Act → World → Prop), RB E a w O R st → get a sS = .pointer (some ⟨B, p, none⟩) → O B → R ≠ B → Blk w B cs Tb →
      cs[p + (k0 + foff E.fl fs i)]? = some (.slice oa n0 c0) → OldB w O R B (eszR E of sub) oa c0 →
      (∀ a' w', ListQ E m (eszR E of sub) (p + (k0 + foff E.fl fs i)) (.mk .list a1 a2 a3 a4 a5 of sub) a w O R B st cs Tb oa a' w' → T0.wp Tryd.prog Q a' w') → (∀ a' w', RFail O w (st.bind (decF E.flex E.ver (.mk .list a1 a2 a3 a4 a5 of sub)) = none) a' w' → Q .ret a' w') →
      (Code.seq (.region r10 #[⟨some w1', .move (.tmp sS), y0, q0, e0, none⟩, ⟨some w2', .nilCheck (.tmp w1'), y1, q1, e1, none⟩, ⟨some w3', .fieldAddr T (.tmp w2') idx, y2, q2, e2, none⟩, ⟨some w4', .load ty (.tmp w3'), y3, q3, e3, none⟩, ⟨some vS, .assign (.tmp w4'), y4, q4, e4, none⟩] false)
        (.seq (.region r11 #[⟨some w5', .move (.tmp vS), y5, q5, e5, none⟩, ⟨some aS, .assign (.tmp w5'), y6, q6, e6, none⟩] false)
          (.seq (.region r12 #[⟨some lS, .assign (.const (.int .i32 0)), y7, q7, e7, none⟩] false) (.seq cl
      (.seq (.seq (.region r0 #[⟨some t1, .call { callee := .value (.func 28), args := #[.tmp E.rr], argTypes := us }, y8, q8, e8, none⟩, ⟨some t2, .unOp .not uo (.tmp t1), y9, q9, e9, none⟩] false)
        (.cond (.tmp t2) (.seq (.region r1 #[⟨some t3, .call { callee := .value (.func 29), args := #[.tmp E.rr], argTypes := us2 }, y10, q10, e10, none⟩, ⟨some 6, .assign (.tmp t3), y11, q11, e11, none⟩] false) .ret) .skip))
      (.seq (.region r2 #[⟨some t4, .move (.tmp aS), y12, q12, e12, none⟩, ⟨some t5, .slice ty (.tmp t4) none (some (.const (.int .i64 0))) none, y13, q13, e13, none⟩, ⟨some aS, .assign (.tmp t5), y14, q14, e14, none⟩] false)
      (.seq (.seq (.region r3 #[⟨some t6, .move (.tmp lS), y15, q15, e15, none⟩, ⟨some t7, .binOp .gtr ug (.tmp t6) (.const (.int .i32 0)) ug, y16, q16, e16, none⟩] false)
          (.cond (.tmp t7) (.region r4 #[⟨some t8, .move (.tmp aS), y17, q17, e17, none⟩, ⟨some t9, .move (.tmp lS), y18, q18, e18, none⟩, ⟨some t10, .call { callee := .builtin .append, args := #[.tmp t8, .tmp t9], argTypes := #[ty, ti] }, y19, q19, e19, none⟩, ⟨some aS, .assign (.tmp t10), y20, q20, e20, none⟩] false) .skip))
      (.seq (.seq (.region r5 #[⟨some iS, .assign (.const (.int .i32 0)), y21, q21, e21, none⟩] false) (.block b1 (.loop (.seq (.seq (.region r6 #[⟨some u1, .move (.tmp iS), y22, q22, e22, none⟩, ⟨some u2, .move (.tmp lS), y23, q23, e23, none⟩, ⟨some u3, .binOp .lss ua (.tmp u1) (.tmp u2) ua, y24, q24, e24, none⟩] false) (.cond (.tmp u3) .skip (.exit b1)))
          (.seq (.block b2 body) (.region r7 #[⟨some u4, .move (.tmp iS), y25, q25, e25, none⟩, ⟨some u5, .binOp .add ua (.tmp u4) (.const (.int .i32 1)) ua, y26, q26, e26, none⟩, ⟨some iS, .assign (.tmp u5), y27, q27, e27, none⟩] false))))))
        (.seq (.region r8 #[⟨some t11, .move (.tmp aS), y28, q28, e28, none⟩, ⟨some vS, .assign (.tmp t11), y29, q29, e29, none⟩] false) (.seq (.region r9 #[⟨some v1, .move (.tmp sS), y30, q30, e30, none⟩, ⟨some v2, .move (.tmp vS), y31, q31, e31, none⟩, ⟨some v3, .nilCheck (.tmp v1), y32, q32, e32, none⟩, ⟨some v4, .fieldAddr T (.tmp v3) idx, y33, q33, e33, none⟩, ⟨none, .store ty (.tmp v4) (.tmp v2), y34, q34, e34, none⟩] false) T0)))))))))).wp Tryd.prog Q a w := by
  simp only [Bool.and_eq_true] at hB2 hS
  obtain ⟨⟨⟨⟨⟨⟨⟨⟨n1, n2⟩, n3⟩, n4⟩, n5⟩, n6⟩, n7⟩, n8⟩, n9⟩ := hB2
  obtain ⟨⟨⟨⟨⟨⟨⟨⟨⟨⟨⟨p1, p2⟩, p3⟩, p4⟩, p5⟩, p6⟩, p7⟩, p8⟩, p9⟩, p10⟩, p11⟩, p12⟩ := hS
  obtain ⟨z, hz1, hz2, hz3, hbody⟩ := hz
  intro a w O R B p st cs Tb oa n0 c0 Q hB gS oB ne hb hv hold hn hr
  have hlen : p + (k0 + foff E.fl fs i) + 1 ≤ cs.length := (List.getElem?_eq_some_iff.1 hv).1
  refine itO_head hf (by simp only [Bool.and_eq_true]; exact ⟨⟨n6, n7⟩, n9⟩) hl p1 (by simp only [Bool.and_eq_true]; exact p2) hB gS hb hv ?_
  intro a' w' L hk hc hrs hll gl hL ga
  have hb' : Blk w' B cs Tb := hb.chg hc fun e => ne e.symm
  have hold' : OldB w' O R B (eszR E of sub) oa c0 := by
    rcases hold with h | ⟨g, cg, Tg, h1, h2, h3, h4, h5, h6⟩
    · exact .inl h
    · exact .inr ⟨g, cg, Tg, h1, h2, h3, h4, h5.chg hc fun e => h3 e.symm, h6⟩
  exact itO_rest (by simp only [Bool.and_eq_true]; exact ⟨⟨⟨⟨n2, n3⟩, n4⟩, n5⟩, n1⟩) (by simp only [Bool.and_eq_true]; exact ⟨n7, n8⟩) hz1 hz2 hz3 hOk hCo hbody p3 p4 p5 p6 p7 p8 p9 p10 p11 (by simp only [Bool.and_eq_true]; exact p12) hB gS oB ne hb' hlen hold' hk hc hrs hll gl hL ga hn hr
end
end Go.Proofs.YtojpodeljpfgaabDoor
namespace Go.Proofs.YtojpodeljpfgaabDoor
set_option linter.all false
open Go.RowKit
set_option maxRecDepth 10000
set_option maxHeartbeats 4000000
section
variable {known : Nat → Option (Nat × (Bs → Option D))} {i : Nat} {f2 : Bs → Option D} {sc st : Option Bs} {ds : List D} {tg : za0} {E : REnv} {fs : List Fld} {s : S}
end
section
variable {E : REnv} {m sS k0 I i : Nat} {fs : List Fld} {pre : S → Prop} {sem tl ok : Sem} {c c1 c2 : Code} {f : Fld}
end
section
variable {y0 y1 y2 y3 y4 y5 y6 y7 y8 y9 y10 y11 y12 y13 y14 y15 y16 y17 y18 y19 y20 y21 y22 y23 y24 y25 y26 y27 y28 y29 y30 y31 y32 y33 y34 y35 y36 y37 y38 y39 : TypeId} {q0 q1 q2 q3 q4 q5 q6 q7 q8 q9 q10 q11 q12 q13 q14 q15 q16 q17 q18 q19 q20 q21 q22 q23 q24 q25 q26 q27 q28 q29 q30 q31 q32 q33 q34 q35 q36 q37 q38 q39 : String} {e0 e1 e2 e3 e4 e5 e6 e7 e8 e9 e10 e11 e12 e13 e14 e15 e16 e17 e18 e19 e20 e21 e22 e23 e24 e25 e26 e27 e28 e29 e30 e31 e32 e33 e34 e35 e36 e37 e38 e39 : Array Edge} {r0 r1 r2 r3 r4 r5 : Nat}
variable {E : REnv} {m sS B R T : Nat} {N : Nat} {us us2 : Array TypeId} {fs : List Fld} {c : Code} {dc : List Value} {ver : Int} {a : Act} {w w0 : World} {oa : Option Addr} {bs : Bs} {cap : Nat} {fnD : FuncId} {Q : Exit → Act → World → Prop} {r6 r7 r8 r9 : Nat}
end
section
variable {y0 y1 y2 y3 y4 y5 y6 y7 y8 y9 y10 y11 y12 y13 y14 y15 y16 y17 y18 y19 y20 y21 y22 y23 y24 y25 y26 y27 y28 y29 y30 y31 y32 y33 y34 y35 y36 y37 y38 y39 : TypeId} {q0 q1 q2 q3 q4 q5 q6 q7 q8 q9 q10 q11 q12 q13 q14 q15 q16 q17 q18 q19 q20 q21 q22 q23 q24 q25 q26 q27 q28 q29 q30 q31 q32 q33 q34 q35 q36 q37 q38 q39 : String} {e0 e1 e2 e3 e4 e5 e6 e7 e8 e9 e10 e11 e12 e13 e14 e15 e16 e17 e18 e19 e20 e21 e22 e23 e24 e25 e26 e27 e28 e29 e30 e31 e32 e33 e34 e35 e36 e37 e38 e39 : Array Edge} {r0 r1 r2 r3 r4 r5 : Nat}
variable {r6 r7 r8 r9 r10 r11 r12 r13 : Nat}
variable {E : REnv} {m mB sS k0 i I x y ys aS iS lS vS t1 t2 t3 t4 t5 t6 t7 t8 t9 t10 t11 t12 t13 t14 t15 t16 t17 w1' w2' w3' w4' w5' u1 u2 u3 u4 u5 v1 v2 v3 v4 b1 b2 ug uo uc ui : Nat} {fs sub : List Fld} {pre : S → Prop} {c c1 c2 body cl cn cr T0 : Code} {us us2 us3 : Array TypeId} {fn : FuncId} {T ty ti idx off ua uoT tyV tyW tyE sz : Nat} {a1 a2 a3 a4 a5 : Int} {of : K} {z : Value} {f : Fld} {sem : Bs → Option (D × Bs)} {tl semS : Sem}
end
end Go.Proofs.YtojpodeljpfgaabDoor
namespace Go.Proofs.YtojpodeljpfgaabDoor
set_option linter.all false
open Go.RowKit
set_option maxRecDepth 10000
set_option maxHeartbeats 4000000
def fixO (old d : D) : D := match d, old with
  | .arr _ [], .arr b _ => .arr b []
  | d, _ => d
def rTagO (known : Nat → Option (Nat × (Bs → Option D))) : Nat → Sem
  | 0 => Sem.id
  | n + 1 => fun s bs => (zav bs).bind fun k => (zav k.2).bind fun l => (rSpan l.1 l.2).bind fun v =>
    match known k.1 with
    | none => rTagO known n { s with tags := tagSet s.tags k.1 v.1 } v.2
    | some f => (f.2 v.1).bind fun d => rTagO known n { s with ds := s.ds.set f.1 (fixO (s.ds.getD f.1 (.bool false)) d) } v.2
def tlO (flex : Bool) (ver : Int) (fs : List Fld) : Sem := fun s bs => if flex then (zav bs).bind fun n => rTagO (zax flex ver fs 0) n.1 ⟨s.ds, []⟩ n.2 else some (⟨s.ds, []⟩, bs)
def decPartO (flex : Bool) (ver : Int) (fs : List Fld) (bs : Bs) : Option (S × Bs) := (decL flex ver fs bs).bind fun x => tlO flex ver fs ⟨x.1, []⟩ x.2
section
variable {known : Nat → Option (Nat × (Bs → Option D))} {i : Nat} {f2 : Bs → Option D} {sc st : Option Bs} {ds : List D} {tg : za0} {E : REnv} {fs : List Fld} {s : S}
theorem tot_dfltO (hk : Kn0 known i f2) {j x1 x2 : Nat} {l : Bs} (e1 : ∀ y, sc.bind zav = some y → x1 = y.1) (e2 : ∀ y, ((sc.bind zav).map (·.2)).bind zav = some y → x2 = y.1)
    (e3 : ∀ y, ((((sc.bind zav).map (·.2)).bind zav).map (·.2)).bind (rSpan x2) = some y → l = y.1) (h1 : x1 ≠ 0) :
    sc.bind (rTagO known (j + 1) ⟨ds, tg⟩) = ((((((sc.bind zav).map (·.2)).bind zav).map (·.2)).bind (rSpan x2)).map (·.2)).bind (rTagO known j ⟨ds, tagSet tg x1 l⟩) := by
  cases sc with
  | none => rfl
  | some bs =>
    simp only [Option.bind_some] at e1 e2 e3 ⊢
    rw [rTagO]
    dsimp only
    cases a1 : zav bs with
    | none => rfl
    | some y1 =>
      rw [a1] at e1 e2 e3
      simp only [Option.map_some, Option.bind_some] at e1 e2 e3 ⊢
      have := e1 y1 rfl
      subst this
      cases a2 : zav y1.2 with
      | none => rfl
      | some y2 =>
        rw [a2] at e2 e3
        simp only [Option.map_some, Option.bind_some] at e2 e3 ⊢
        have := e2 y2 rfl
        subst this
        cases a3 : rSpan (y2.1 : Int) y2.2 with
        | none => rfl
        | some y3 =>
          simp only [Option.map_some, Option.bind_some]
          have := e3 y3 a3
          subst this
          rw [hk y1.1, if_neg h1]
theorem tot_caseO (hk : Kn0 known i f2) {j x1 x2 : Nat} {l : Bs} (e1 : ∀ y, sc.bind zav = some y → x1 = y.1) (e2 : ∀ y, ((sc.bind zav).map (·.2)).bind zav = some y → x2 = y.1)
    (e3 : ∀ y, ((((sc.bind zav).map (·.2)).bind zav).map (·.2)).bind (rSpan x2) = some y → l = y.1) (h1 : x1 = 0) :
    sc.bind (rTagO known (j + 1) ⟨ds, tg⟩) = (f2 l).bind fun d => ((((((sc.bind zav).map (·.2)).bind zav).map (·.2)).bind (rSpan x2)).map (·.2)).bind (rTagO known j ⟨ds.set i (fixO (ds.getD i (.bool false)) d), tg⟩) := by
  have hnone : ∀ {g : D → Option (S × Bs)}, (∀ d, g d = none) → (f2 l).bind g = none := fun h => by cases f2 l with
    | none => rfl
    | some d => exact h d
  cases sc with
  | none => exact (hnone fun d => rfl).symm
  | some bs =>
    simp only [Option.bind_some] at e1 e2 e3 ⊢
    rw [rTagO]
    dsimp only
    cases a1 : zav bs with
    | none => exact (hnone fun d => rfl).symm
    | some y1 =>
      rw [a1] at e1 e2 e3
      simp only [Option.map_some, Option.bind_some] at e1 e2 e3 ⊢
      have := e1 y1 rfl
      subst this
      cases a2 : zav y1.2 with
      | none => exact (hnone fun d => rfl).symm
      | some y2 =>
        rw [a2] at e2 e3
        simp only [Option.map_some, Option.bind_some] at e2 e3 ⊢
        have := e2 y2 rfl
        subst this
        cases a3 : rSpan (y2.1 : Int) y2.2 with
        | none => exact (hnone fun d => rfl).symm
        | some y3 =>
          simp only [Option.map_some, Option.bind_some]
          have := e3 y3 a3
          subst this
          rw [hk y1.1, if_pos h1]
theorem tot_startO {n : Nat} (hx : E.flex = true) (e1 : ∀ y, st.bind zav = some y → n = y.1) : st.bind (tlO E.flex E.ver fs s) = ((st.bind zav).map (·.2)).bind (rTagO (zax E.flex E.ver fs 0) n ⟨s.ds, []⟩) := by
  cases st with
  | none => rfl
  | some bs =>
    simp only [Option.bind_some] at e1 ⊢
    unfold tlO
    rw [if_pos hx]
    cases a1 : zav bs with
    | none => rfl
    | some y1 =>
      have := e1 y1 a1
      subst this
      rfl
end
section
variable {E : REnv} {m sS k0 I i : Nat} {fs : List Fld} {pre : S → Prop} {sem tl ok : Sem} {c c1 c2 : Code} {f : Fld}
theorem rtxo_lastK (hf : fs[i]? = some f) (hl : decide (fs.length = i + 1) = true) (ht : decide (0 ≤ f.tag) = true) (h : RkT E m sS k0 fs (Fresh fs i) tl c) : RkT E m sS k0 fs (Fresh fs i) (semL E fs i tl) c := by
  have hs : ∀ (tl : Sem) s bs, Fresh fs i s → s.ds.length = fs.length → semL E fs i tl s bs = tl s bs := fun tl s bs hfr hlen => by
    rw [semL_step hf hfr hlen]
    unfold semFld
    have := of_decide_eq_true ht
    have := of_decide_eq_true hl
    rw [if_neg (by simp; omega)]
    exact semL_end (by omega) hlen
  exact rtx_mono h (fun _ h => h) (hs tl)
theorem rtxo_tl (hsl : rsl E m [] [sS] = true) (h1 : RkC E m sS k0 fs I pre tl c1) (h2 : RtC E m sS k0 fs (fun _ => True) (fun s bs => some (s, bs)) c2) : RkT E m sS k0 fs pre tl (.seq c1 c2) := by
  obtain ⟨hm, hw, hr, hnd⟩ := zau hsl
  simp only [List.mem_cons, List.not_mem_nil, or_false, forall_eq] at hr
  intro a w O R B p st s hB hP hpre
  refine wp_seq (wp_mono (h1 a w O R B p st s hB hP hpre) ?_)
  intro e a1 w1 hq
  cases e <;> try exact hq.elim
  · obtain ⟨hk, hc, hrs, st1, s1, hs1, ha1, hstp, hl, hI1⟩ := hq
    have hcO : Chg O w w1 := hc.mono fun k _ hk => by rcases hk with rfl | rfl; exact hB.oR; exact hP.oB
    have hB1 := hB.next hm hk hc (fun k hk => by rcases hk with rfl | rfl; exact hB.oR; exact hP.oB) hs1 hl
    have hP1 : RP E sS k0 fs a1 w1 O R B p s1 := ⟨(hk.slot _ hr).trans hP.pt, ha1, hP.oB, hP.ne⟩
    refine wp_mono (h2 a1 w1 O R B p st1 s1 hB1 hP1 trivial) ?_
    intro e a2 w2 hq
    cases e <;> try exact hq.elim
    obtain ⟨q1, q2⟩ := hq
    unfold Stp at hstp
    have hst : (st1.bind fun bs => some (s1, bs)) = st.bind (tl s) := by
      cases hh : st.bind (tl s) with
      | none => rw [hh] at hstp; rw [hstp]; rfl
      | some y => rw [hh] at hstp; rw [hstp.1, hstp.2]; rfl
    rw [hst] at q2
    refine ⟨q1, ?_⟩
    rcases q2 with ⟨x1, x2, x3⟩ | ⟨s2, r, x1, x2, x3, x4, x5⟩
    · exact .inl ⟨x1, x2, hcO.trans x3 fun _ _ h => h⟩
    · exact .inr ⟨s2, r, x1, x2, hc.trans x3 fun _ _ h => h, x4, hrs.trans x5⟩
  · obtain ⟨q1, q2, q3, q4⟩ := hq
    exact ⟨q1, .inl ⟨q3, q2, q4⟩⟩
end
theorem segB_same {cs cs' : List Value} {o n : Nat} (h : ∀ j, o ≤ j → j < o + n → cs'[j]? = cs[j]?) : (cs'.drop o).take n = (cs.drop o).take n := by
  refine List.ext_getElem? fun j => ?_
  by_cases hj : j < n
  · rw [seg_get hj, seg_get hj, h (o + j) (by omega) (by omega)]
  · rw [List.getElem?_eq_none (by rw [List.length_take]; omega), List.getElem?_eq_none (by rw [List.length_take]; omega)]
theorem seg_snoc {cs : List Value} {o n : Nat} {x : Value} (h : cs[o + n]? = some x) : (cs.drop o).take (n + 1) = (cs.drop o).take n ++ [x] := by
  have hl := (List.getElem?_eq_some_iff.1 h).1
  refine List.ext_getElem? fun j => ?_
  have l1 : ((cs.drop o).take n).length = n := by rw [List.length_take, List.length_drop]; omega
  by_cases h1 : j < n
  · rw [seg_get (by omega), List.getElem?_append_left (by omega), seg_get h1]
  · by_cases h2 : j = n
    · subst h2
      rw [seg_get (by omega), List.getElem?_append_right (by omega), l1, Nat.sub_self, h]; rfl
    · rw [List.getElem?_eq_none (by rw [List.length_take]; omega), List.getElem?_eq_none (by rw [List.length_append, l1, List.length_singleton]; omega)]
theorem splice_one {cs : List Value} {o : Nat} {x : Value} (h : o + 1 ≤ cs.length) : (zas cs o [x])[o]? = some x := by
  have h1 := seg_get (l := zas cs o [x]) (i := o) (n := 1) (j := 0) (by omega)
  have h2 := splice_seg (l := cs) (i := o) (vs := [x]) h
  rw [show ([x] : List Value).length = 1 from rfl] at h2
  rw [Nat.add_zero, h2] at h1
  rw [← h1]; rfl
theorem lsz_snoc {fl : Bool} : ∀ (fs : List Fld) (f : Fld), lsz fl (fs ++ [f]) = lsz fl fs + fsz fl f
  | [], f => by simp [lsz]
  | g :: r, f => by simp only [List.cons_append, lsz, lsz_snoc r f]; omega
theorem RepL.unsnoc {w : World} {G : Nat → Prop} {fl : Bool} : ∀ {fs : List Fld} {f : Fld} {ds : List D} {vs : List Value}, RepL w G fl (fs ++ [f]) ds vs → ∃ ds0 d v0 v, ds = ds0 ++ [d] ∧ vs = v0 ++ v ∧ v.length = fsz fl f ∧ RepL w G fl fs ds0 v0 ∧ RepF w G fl f d v
  | [], f, ds, vs, h => by
    simp only [List.nil_append] at h
    unfold RepL at h
    obtain ⟨d, ds', v, vs', rfl, rfl, h3, h4, h5⟩ := h
    unfold RepL at h5
    obtain ⟨rfl, rfl⟩ := h5
    exact ⟨[], d, [], v, rfl, by simp, h3, by unfold RepL; exact ⟨rfl, rfl⟩, h4⟩
  | g :: r, f, ds, vs, h => by
    simp only [List.cons_append] at h
    unfold RepL at h
    obtain ⟨d, ds', v, vs', rfl, rfl, h3, h4, h5⟩ := h
    obtain ⟨ds0, d2, v0, v2, rfl, rfl, k3, k4, k5⟩ := RepL.unsnoc h5
    exact ⟨d :: ds0, d2, v ++ v0, v2, rfl, by simp, k3, by unfold RepL; exact ⟨d, ds0, v, v0, rfl, rfl, h3, h4, k4⟩, k5⟩
theorem RepL.snoc {w : World} {G : Nat → Prop} {fl : Bool} : ∀ {fs : List Fld} {f : Fld} {ds0 : List D} {d : D} {v0 v : List Value}, RepL w G fl fs ds0 v0 → v.length = fsz fl f → RepF w G fl f d v → RepL w G fl (fs ++ [f]) (ds0 ++ [d]) (v0 ++ v)
  | [], f, ds, d, v0, v, h, h1, h2 => by
    unfold RepL at h
    obtain ⟨rfl, rfl⟩ := h
    simp only [List.nil_append]
    unfold RepL
    exact ⟨d, [], v, [], rfl, by simp, h1, h2, by unfold RepL; exact ⟨rfl, rfl⟩⟩
  | g :: r, f, ds, d2, v0, v2, h, h1, h2 => by
    unfold RepL at h
    obtain ⟨d, ds', v, vs', rfl, rfl, h3, h4, h5⟩ := h
    simp only [List.cons_append]
    unfold RepL
    exact ⟨d, ds' ++ [d2], v, vs' ++ v2, rfl, by simp, h3, h4, RepL.snoc h5 h1 h2⟩
def PL (O : Nat → Prop) (m : Option Nat) (oa : Option Addr) (g : Nat) : Prop := (O g ∨ some g = m) ∨ oa = some ⟨g, 0, none⟩
structure LF (fs : List Fld) (i : Nat) (f : Fld) : Prop where
  spl : fs = fs.take i ++ [f]
  len : (fs.take i).length = i
  one : fsz true f = 1
theorem LF.lsz {fs : List Fld} {i : Nat} {f : Fld} (h : LF fs i f) : lsz true fs = foff true fs i + 1 := by
  have := congrArg (Go.Proofs.YtojpodeljpfgaabDoor.lsz true) h.spl
  rw [lsz_snoc, h.one] at this
  exact this
theorem LF.ssz {fs : List Fld} {i : Nat} {f : Fld} (h : LF fs i f) : ssz true fs = foff true fs i + 2 := by
  unfold Go.Proofs.YtojpodeljpfgaabDoor.ssz
  rw [h.lsz, if_pos rfl]
structure KL (k0 : Nat) (fs : List Fld) (i : Nat) (f : Fld) (sz : Nat) (w : World) (O : Nat → Prop) (R B p : Nat) (st : Option Bs) (w' : World) (m : Option Nat) (tg : za0) (sc : Option Bs) (oa : Option Addr) (c0 : Nat) (ds : List D) : Prop where
  chg : Chg (fun k => k = R ∨ k = B) w w'
  rest : Rest w w' B (p + k0) (ssz true fs)
  rd : RdS w' (fun g => ¬ PL O m oa g) R sc
  at_ : ∃ cs T xs ds0, Blk w' B cs T ∧ p + k0 + ssz true fs ≤ cs.length ∧ RepL w' (fun g => ¬ PL O m oa g) true (fs.take i) ds0 ((cs.drop (p + k0)).take (foff true fs i)) ∧ cs[p + k0 + foff true fs i]? = some (.slice oa xs.length c0) ∧ cs[p + k0 + lsz true fs]? = some (.map m) ∧
    ds = ds0 ++ [.arr oa.isNone xs] ∧ RepF w' (fun g => ¬ PL O m oa g ∨ oa = some ⟨g, 0, none⟩) true f (.arr oa.isNone xs) [.slice oa xs.length c0]
  tg : TagsAt w' (fun g => ¬ (O g ∨ oa = some ⟨g, 0, none⟩)) m tg
  mr : ∀ r, m = some r → w.heap.size ≤ r ∧ r < w'.heap.size
  old : (oa = none ∧ c0 = 0) ∨ ∃ g cg Tg, oa = some ⟨g, 0, none⟩ ∧ w.heap.size ≤ g ∧ some g ≠ m ∧ Blk w' g cg Tg ∧ c0 * sz ≤ cg.length
  len : stLen sc ≤ stLen st
  rl : R < w.heap.size
  bl : B < w.heap.size
  oNew : ∀ k, w.heap.size ≤ k → ¬ O k
section
variable {k0 sS sz : Nat} {fs : List Fld} {i : Nat} {f : Fld} {w w' w'' : World} {O : Nat → Prop} {R B p : Nat} {st sc : Option Bs} {m m' : Option Nat} {tg : za0} {ds : List D} {a : Act} {s : S} {oa : Option Addr} {c0 : Nat}
theorem KL.oag (h : KL k0 fs i f sz w O R B p st w' m tg sc oa c0 ds) {g : Nat} (e : oa = some ⟨g, 0, none⟩) : w.heap.size ≤ g ∧ g < w'.heap.size ∧ some g ≠ m := by
  rcases h.old with ⟨h1, _⟩ | ⟨g', cg, Tg, h1, h2, h3, h4, _⟩
  · rw [h1] at e; cases e
  · rw [h1] at e; cases e; exact ⟨h2, h4.lt, h3⟩
theorem KL.start {E : REnv} {a1 a2 a3 a4 a5 : Int} {of : K} {sub : List Fld} (hfl : E.fl = true) (hF : LF fs i (.mk .list a1 a2 a3 a4 a5 of sub)) (hB : RB E a w O R st) (hP : RP (knE E) sS k0 fs a w O R B p s) (hfr : Fresh fs i s) : KL k0 fs i (.mk .list a1 a2 a3 a4 a5 of sub) sz w O R B p st w none [] st none 0 s.ds := by
  have hs : Stay w w (fun g => ¬ O g) (fun g => ¬ PL O none none g) := ⟨fun k _ h => ⟨rfl, by rintro ((h1 | h1) | h1); exact h h1; cases h1; cases h1⟩⟩
  obtain ⟨cs, T, h1, h2, v1, v2, h3, h4, h5⟩ := hP.at_
  obtain ⟨rfl, _⟩ := (h5 : v2 = [.map none] ∧ _)
  change (cs.drop (p + k0)).take (Go.Proofs.YtojpodeljpfgaabDoor.ssz E.fl fs) = _ at h3
  change p + k0 + Go.Proofs.YtojpodeljpfgaabDoor.ssz E.fl fs ≤ _ at h2
  change RepL _ _ E.fl _ _ _ at h4
  rw [hfl] at h2 h3 h4
  have l1 := h4.len.1
  rw [hF.spl] at h4
  obtain ⟨ds0, d, v0, v, e1, rfl, e3, e4, e5⟩ := h4.unsnoc
  rw [hF.one] at e3
  have l0 : v0.length = foff true fs i := e4.len.1
  have n0 : ds0.length = i := by rw [e4.len.2, hF.len]
  have hd := hfr i (.mk .list a1 a2 a3 a4 a5 of sub) (Nat.le_refl _) (by rw [hF.spl, List.getElem?_append_right (by rw [hF.len]; exact Nat.le_refl _), hF.len, Nat.sub_self]; rfl)
  rw [e1, List.getElem?_append_right (by omega), n0, Nat.sub_self] at hd
  have hdf : dfltF (.mk .list a1 a2 a3 a4 a5 of sub) = .arr true [] := by unfold dfltF; rfl
  rw [hdf] at hd
  simp only [List.getElem?_cons_zero, Option.some.injEq] at hd
  subst hd
  have hv : v = [.slice none 0 0] := by
    unfold RepF at e5
    obtain ⟨oa, cap, g1, ⟨g2, g3⟩, _⟩ := e5
    cases oa with
    | none => rw [g1, g3 rfl]; rfl
    | some _ => cases g2
  subst hv
  have hsz := hF.ssz
  have hlz := hF.lsz
  refine ⟨Chg.refl _ _, Rest.of rfl, hB.rs.stay hs rfl, ⟨cs, T, [], ds0, h1, h2, ?_, ?_, ?_, e1, ?_⟩, .inl ⟨rfl, rfl⟩, fun r h => (by cases h), .inl ⟨rfl, rfl⟩, Nat.le_refl _, hB.rs.lt, h1.lt, hB.new⟩
  · have e : (cs.drop (p + k0)).take (foff true fs i) = v0 := by
      have : (cs.drop (p + k0)).take (foff true fs i) = ((cs.drop (p + k0)).take (Go.Proofs.YtojpodeljpfgaabDoor.ssz true fs)).take (foff true fs i) := by rw [List.take_take, Nat.min_eq_left (by omega)]
      rw [this, h3, List.append_assoc, List.take_append_of_le_length (by omega), List.take_of_length_le (by omega)]
    rw [e]
    exact RepL.stay hs e4
  · rw [← seg_get (n := Go.Proofs.YtojpodeljpfgaabDoor.ssz true fs) (by omega), h3, List.append_assoc, List.getElem?_append_right (by omega), l0, Nat.sub_self]; rfl
  · rw [← seg_get (n := Go.Proofs.YtojpodeljpfgaabDoor.ssz true fs) (by omega), h3, List.append_assoc, List.getElem?_append_right (by omega), l0, hlz, Nat.add_sub_cancel_left]; rfl
  · exact RepF.stay ⟨fun k hk h => ⟨rfl, .inl (hs.heap k hk h).2⟩⟩ e5
theorem KL.new {E : REnv} (h : KL k0 fs i f sz w O R B p st w' m tg sc oa c0 ds) (hB : RB E a w O R st) : ∀ k, w'.heap.size ≤ k → ¬ PL O m oa k := by
  intro k hk
  have := h.chg.size
  rintro ((h1 | h1) | h1)
  · exact hB.new k (by omega) h1
  · have := (h.mr k h1.symm).2; omega
  · have := (h.oag h1).2.1; omega
theorem KL.quiet {sc' : Option Bs} (h : KL k0 fs i f sz w O R B p st w' m tg sc oa c0 ds) (oR : O R) (ne : R ≠ B) (hc : Chg (fun k => k = R) w' w'') (hr : RdS w'' (fun g => ¬ PL O m oa g) R sc') (hl : stLen sc' ≤ stLen sc) : KL k0 fs i f sz w O R B p st w'' m tg sc' oa c0 ds := by
  have hs := hc.size
  have hs0 := h.chg.size
  obtain ⟨cs, T, xs, ds0, q1, q2, q3, q4, q5, q6, q7⟩ := h.at_
  have hb : w''.heap[B]? = w'.heap[B]? := hc.block B q1.lt fun e => ne e.symm
  have hrl := h.rl
  refine ⟨h.chg.trans hc fun _ _ h => .inl h, h.rest.trans (Rest.of hb), hr, ⟨cs, T, xs, ds0, hb.trans q1, q2, RepL.stay (Stay.of hc fun k _ _ e => ?_) q3, q4, q5, q6, RepF.stay (Stay.of hc fun k hk _ e => ?_) q7⟩, h.tg.stay (Stay.of hc fun k hk _ e => hk (.inl (e ▸ oR))), fun r hr' => ?_, ?_, Nat.le_trans hl h.len, hrl, h.bl, h.oNew⟩
  · rename_i hk _; exact hk (e ▸ .inl (.inl oR))
  · rcases hk with hk | hk
    · exact hk (e ▸ .inl (.inl oR))
    · have := (h.oag hk).1; omega
  · have := h.mr r hr'; omega
  · rcases h.old with h1 | ⟨g, cg, Tg, h1, h2, h3, h4, h5⟩
    · exact .inl h1
    · exact .inr ⟨g, cg, Tg, h1, h2, h3, h4.chg hc (by omega), h5⟩
theorem KL.read {α : Type} {sem : Bs → Option (α × Bs)} {out : World → World → (Nat → Prop) → α → Value → Prop} {v : Value} (h : KL k0 fs i f sz w O R B p st w' m tg sc oa c0 ds) (oR : O R) (ne : R ≠ B) (hr : Reads w' (fun g => ¬ PL O m oa g) R sc sem out v w'') (hl : Less sem) :
    KL k0 fs i f sz w O R B p st w'' m tg ((sc.bind sem).map (·.2)) oa c0 ds := h.quiet oR ne hr.chg hr.rd (hl.st sc)
theorem KL.drew (h : KL k0 fs i f sz w O R B p st w' m tg sc oa c0 ds) (oR : O R) (ne : R ≠ B) : KL k0 fs i f sz w O R B p st w'.drew m tg sc oa c0 ds :=
  h.quiet oR ne ((Chg.drew (fun _ => False) _).mono fun _ _ h => h.elim) (h.rd.stay (Stay.of (Chg.drew (fun _ => False) _) fun _ _ _ h => h) rfl) (Nat.le_refl _)
theorem KL.cell (h : KL k0 fs i f sz w O R B p st w' m tg sc oa c0 ds) : ∃ cs T, Blk w' B cs T ∧ cs[p + (k0 + lsz true fs)]? = some (.map m) := by
  obtain ⟨cs, T, xs, ds0, q1, q2, q3, q4, q5, q6, q7⟩ := h.at_
  exact ⟨cs, T, q1, by rw [← Nat.add_assoc]; exact q5⟩
theorem KL.set {w3 : World} {k : Nat} {l : Bs} {cs : List Value} {T : TypeId} (h : KL k0 fs i f sz w O R B p st w' m tg sc oa c0 ds) (hF : LF fs i f) (oB : O B) (oR : O R) (ne : R ≠ B) (hb : Blk w' B cs T) (hb3 : Blk w3 B (zas cs (p + (k0 + lsz true fs)) [.map m']) T) (ht3 : TagsAt w3 (fun g => ¬ (O g ∨ oa = some ⟨g, 0, none⟩)) m' (tagSet tg k l))
    (hc3 : Chg (fun j => j = B ∨ some j = m) w' w3) (hm : m' = m ∨ ∃ r, m' = some r ∧ w'.heap.size ≤ r) : KL k0 fs i f sz w O R B p st w3 m' (tagSet tg k l) sc oa c0 ds := by
  have hs3 := hc3.size
  have hs0 := h.chg.size
  have hsz := hF.ssz
  have hlz := hF.lsz
  have hbl := h.bl
  have hrl := h.rl
  have key : ∀ j, j < w'.heap.size → ¬ (j = B ∨ some j = m) → w3.heap[j]? = w'.heap[j]? ∧ ¬ some j = m' := fun j hj hx => ⟨hc3.block j hj hx, fun e => by
    rcases hm with rfl | ⟨r, rfl, hr⟩
    · exact hx (.inr e)
    · cases e; omega⟩
  have stG : Stay w' w3 (fun g => ¬ PL O m oa g) (fun g => ¬ PL O m' oa g) := ⟨fun j hj hg => by
    have hx := key j hj (by rintro (e | e); exact hg (.inl (.inl (e ▸ oB))); exact hg (.inl (.inr e)))
    refine ⟨hx.1, ?_⟩
    rintro ((e | e) | e)
    · exact hg (.inl (.inl e))
    · exact hx.2 e
    · exact hg (.inr e)⟩
  have stF : Stay w' w3 (fun g => ¬ PL O m oa g ∨ oa = some ⟨g, 0, none⟩) (fun g => ¬ PL O m' oa g ∨ oa = some ⟨g, 0, none⟩) := ⟨fun j hj hg => by
    rcases hg with hg | hg
    · exact ⟨(stG.heap j hj hg).1, .inl (stG.heap j hj hg).2⟩
    · have := h.oag hg
      exact ⟨(key j hj (by rintro (e | e); omega; exact this.2.2 e)).1, .inr hg⟩⟩
  obtain ⟨cs0, T0, xs, ds0, q1, q2, q3, q4, q5, q6, q7⟩ := h.at_
  obtain ⟨rfl, rfl⟩ := q1.inj hb
  have hlen : p + k0 + lsz true fs + ([.map m'] : List Value).length ≤ cs0.length := by simp only [List.length_singleton]; omega
  rw [← Nat.add_assoc] at hb3
  refine ⟨h.chg.trans hc3 fun n hn e => ?_, h.rest.trans ?_, h.rd.stay stG (hc3.block R h.rd.lt ?_), ⟨_, _, xs, ds0, hb3, by rw [zaG hlen]; exact q2, ?_, ?_, ?_, q6, RepF.stay stF q7⟩, ht3, fun r hr => ?_, ?_, h.len, hrl, hbl, h.oNew⟩
  · rcases e with e | e
    · exact .inr e
    · have := (h.mr n e.symm).1; omega
  · intro cs1 T1 hb1
    obtain ⟨rfl, rfl⟩ := hb1.inj hb
    refine ⟨_, hb3, zaG hlen, fun j hj => ?_⟩
    rcases hj with hj | hj
    · exact zaO hlen (by omega)
    · exact zaV hlen (by simp only [List.length_singleton]; omega)
  · rintro (e | e)
    · exact ne e
    · have := (h.mr R e.symm).1; omega
  · rw [segB_same fun j h1 h2 => zaO hlen (by omega)]
    exact RepL.stay stG q3
  · rw [zaO hlen (by omega)]; exact q4
  · exact splice_one hlen
  · rcases hm with rfl | ⟨r', rfl, hr'⟩
    · have := h.mr r hr; omega
    · cases hr
      rcases ht3 with ⟨e, _⟩ | ⟨r2, es, c, e1, e2, e3, _⟩
      · cases e
      · cases e1
        exact ⟨by omega, (Array.getElem?_eq_some_iff.1 e3).1⟩
  · rcases h.old with h1 | ⟨g, cg, Tg, h1, h2, h3, h4, h5⟩
    · exact .inl h1
    · have hx := key g h4.lt (by rintro (e | e); omega; exact h3 e)
      exact .inr ⟨g, cg, Tg, h1, h2, hx.2, hx.1.trans h4, h5⟩
theorem KL.inRB {E : REnv} {w5 : World} {X cap : Nat} {ob : Option Addr} {l : Bs} {a5 : Act} {jk : Option Value} (h : KL k0 fs i f sz w O R B p st w' m tg sc oa c0 ds) (hB : RB E a w O R st) (oB : O B) (hc : Chg (fun _ => False) w' w5) (hb5 : Blk w5 w'.heap.size [.slice ob l.length cap, .bool false] tR) (hcap : l.length ≤ cap)
    (hl : zaq w' (fun g => ¬ PL O m oa g) ob l) (hlen : l.length ≤ RLIM) (hok : ROK E a5) (hx : get a5 X = .pointer (some ⟨w'.heap.size, 0, none⟩)) :
    RB ⟨E.N, E.ver, E.flex, E.fl, X, jk⟩ a5 w5 (fun g => PL O m oa g ∨ g = w'.heap.size) w'.heap.size (some l) := by
  have hs := h.chg.size
  have hg := gE_lt hB.err
  have e5 := ((hB.err.chg h.chg (by rintro (e | e); exact hB.oE (e ▸ hB.oR); exact hB.oE (e ▸ oB))).chg hc fun h => h)
  refine ⟨hok, hx, ⟨ob, cap, hb5, hcap, hl.stay ⟨fun k hk hg => ⟨hc.block k hk (fun h => h), by rintro (e | e); exact hg e; omega⟩⟩⟩, .inr rfl, ?_, e5, ?_, hlen⟩
  · rintro (((e | e) | e) | e)
    · exact hB.oE e
    · have := (h.mr _ e.symm).1; omega
    · have := (h.oag e).1; omega
    · omega
  · intro k hk
    have := hb5.lt
    rintro (e | e)
    · exact h.new hB k (by omega) e
    · omega
theorem KL.hold {w5 : World} (h : KL k0 fs i f sz w O R B p st w' m tg sc oa c0 ds) (hc : Chg (fun _ => False) w' w5) : OldB w5 (fun g => PL O m oa g ∨ g = w'.heap.size) w'.heap.size B sz oa c0 := by
  have hbl := h.bl
  rcases h.old with h1 | ⟨g, cg, Tg, h1, h2, h3, h4, h5⟩
  · exact .inl h1
  · have := h4.lt
    exact .inr ⟨g, cg, Tg, h1, .inl (.inr h1), by omega, by omega, h4.chg hc fun h => h, h5⟩
theorem KL.cellL {w5 : World} (h : KL k0 fs i f sz w O R B p st w' m tg sc oa c0 ds) (hc : Chg (fun _ => False) w' w5) : ∃ cs T n0, Blk w5 B cs T ∧ Blk w' B cs T ∧ cs[p + (k0 + foff true fs i)]? = some (.slice oa n0 c0) := by
  obtain ⟨cs, T, xs, ds0, q1, q2, q3, q4, q5, q6, q7⟩ := h.at_
  exact ⟨cs, T, xs.length, q1.chg hc fun h => h, q1, by rw [← Nat.add_assoc]; exact q4⟩
theorem KL.inner {w5 w6 : World} {N rr mm : Nat} {ver : Int} {flex : Bool} {jk : Option Value} {cs : List Value} {T : TypeId} {l : Bs} {a5 a6 : Act} (h : KL k0 fs i f sz w O R B p st w' m tg sc oa c0 ds) (hF : LF fs i f) (oB : O B) (oR : O R) (ne : R ≠ B) (hc : Chg (fun _ => False) w' w5) (hb : Blk w' B cs T)
    (hq : ListQ ⟨N, ver, flex, true, rr, jk⟩ mm sz (p + (k0 + foff true fs i)) f a5 w5 (fun g => PL O m oa g ∨ g = w'.heap.size) w'.heap.size B (some l) cs T oa a6 w6) :
    ∃ oa' c' d, KL k0 fs i f sz w O R B p st w6 m tg sc oa' c' (ds.set i d) ∧ ∀ y, decF flex ver f l = some y → fixO (ds.getD i (.bool false)) y.1 = d := by
  have hs0 := h.chg.size
  have hs5 := hc.size
  have hbl := h.bl
  have hrl := h.rl
  have hsz := hF.ssz
  have hlz := hF.lsz
  obtain ⟨p1, p2, p3, p4, oa', xs, c', p5, p6, p7, p8⟩ := hq
  have hs6 := p2.size
  obtain ⟨cs0, T0, xs0, ds0, q1, q2, q3, q4, q5, q6, q7⟩ := h.at_
  obtain ⟨rfl, rfl⟩ := q1.inj hb
  have n0 : ds0.length = i := by rw [q3.len.2, hF.len]
  have hoa : ∀ g, oa' = some ⟨g, 0, none⟩ → oa = some ⟨g, 0, none⟩ ∨ w5.heap.size ≤ g := by
    intro g e
    rcases p8 with ⟨h1, _⟩ | ⟨g', _, _, h1, h2, _⟩
    · rw [h1] at e; cases e
    · rw [h1] at e; cases e
      rcases h2 with h2 | h2
      · exact .inl h2
      · exact .inr h2.1
  have key : ∀ k, k < w'.heap.size → k ≠ B → ¬ oa = some ⟨k, 0, none⟩ → w6.heap[k]? = w'.heap[k]? ∧ ¬ oa' = some ⟨k, 0, none⟩ := fun k hk hkB hko => ⟨(p2.block k (by omega) (by rintro (e | e | e); omega; exact hkB e; exact hko e)).trans (hc.block k hk fun h => h), fun e => by
    rcases hoa k e with e | e
    · exact hko e
    · omega⟩
  have stG : Stay w' w6 (fun g => ¬ PL O m oa g) (fun g => ¬ PL O m oa' g) := ⟨fun k hk hg => by
    have hx := key k hk (fun e => hg (.inl (.inl (e ▸ oB)))) (fun e => hg (.inr e))
    refine ⟨hx.1, ?_⟩
    rintro ((e | e) | e)
    · exact hg (.inl (.inl e))
    · exact hg (.inl (.inr e))
    · exact hx.2 e⟩
  have hlen : p + k0 + foff true fs i + ([.slice oa' xs.length c'] : List Value).length ≤ cs0.length := by simp only [List.length_singleton]; omega
  rw [← Nat.add_assoc] at p5
  have hds : ds.set i (.arr oa'.isNone xs) = ds0 ++ [.arr oa'.isNone xs] := by
    rw [q6, List.set_append_right _ _ (by omega), n0, Nat.sub_self]; rfl
  have hget : ds.getD i (.bool false) = .arr oa.isNone xs0 := by
    rw [q6, List.getD_eq_getElem?_getD, List.getElem?_append_right (by omega), n0, Nat.sub_self]; rfl
  refine ⟨oa', c', .arr oa'.isNone xs, ?_, fun y hy => ?_⟩
  · rw [hds]
    refine ⟨(h.chg.trans hc fun _ _ h => h.elim).trans p2 fun n hn e => ?_, (h.rest.trans (Rest.of (hc.block B (by omega) fun h => h))).trans ?_, h.rd.stay stG (key R h.rd.lt ne fun e => ?_).1, ⟨_, _, xs, ds0, p5, by rw [zaG hlen]; exact q2, ?_, ?_, ?_, rfl, ?_⟩, h.tg.stay ⟨fun k hk hg => ?_⟩, fun r hr => ?_, ?_, h.len, hrl, hbl, h.oNew⟩
    · rcases e with e | e | e
      · omega
      · exact .inr e
      · have := (h.oag e).1; omega
    · intro cs1 T1 hb1
      obtain ⟨rfl, rfl⟩ := hb1.inj (q1.chg hc fun h => h)
      refine ⟨_, p5, zaG hlen, fun j hj => ?_⟩
      rcases hj with hj | hj
      · exact zaO hlen (by omega)
      · exact zaV hlen (by simp only [List.length_singleton]; omega)
    · have := (h.oag e).1; omega
    · rw [segB_same fun j h1 h2 => zaO hlen (by omega)]
      exact RepL.stay stG q3
    · exact splice_one hlen
    · rw [zaV hlen (by simp only [List.length_singleton]; omega)]; exact q5
    · refine RepF.stay (Stay.sub fun k hk hg => ?_) p6
      rcases hg with hg | hg
      · by_cases e : oa' = some ⟨k, 0, none⟩
        · exact .inr e
        · refine .inl ?_
          rintro ((e1 | e1) | e1)
          · exact hg (.inl (.inl (.inl e1)))
          · exact hg (.inl (.inl (.inr e1)))
          · exact e e1
      · exact .inr hg
    · have hx := key k hk (fun e => hg (.inl (e ▸ oB))) (fun e => hg (.inr e))
      refine ⟨hx.1, ?_⟩
      rintro (e | e)
      · exact hg (.inl e)
      · exact hx.2 e
    · have := h.mr r hr; omega
    · rcases p8 with h1 | ⟨g, cg, Tg, h1, h2, h3, h4⟩
      · exact .inl h1
      · refine .inr ⟨g, cg, Tg, h1, ?_, ?_, h3, h4⟩
        · rcases h2 with h2 | h2
          · exact (h.oag h2).1
          · omega
        · rcases h2 with h2 | h2
          · exact (h.oag h2).2.2
          · intro e
            have := (h.mr g e.symm).2; omega
  · obtain ⟨b, e1, e2⟩ := p7 y (by rw [Option.bind_some]; exact hy)
    rw [hget, e1]
    rcases e2 with ⟨rfl, e3⟩ | ⟨rfl, rfl⟩
    · cases xs with
      | nil => exact absurd rfl e3
      | cons _ _ => rfl
    · rfl
theorem KL.failed {w5 w6 : World} (h : KL k0 fs i f sz w O R B p st w' m tg sc oa c0 ds) (oB : O B) (oR : O R) (hc : Chg (fun _ => False) w' w5) (hc6 : Chg (fun g => PL O m oa g ∨ g = w'.heap.size) w5 w6) : Chg O w w6 := by
  have hs0 := h.chg.size
  refine ((h.chg.mono fun k _ e => by rcases e with rfl | rfl; exact oR; exact oB : Chg O w w').trans hc fun _ _ h => h.elim).trans hc6 fun n hn e => ?_
  rcases e with ((e | e) | e) | e
  · exact e
  · have := (h.mr n e.symm).1; omega
  · have := (h.oag e).1; omega
  · omega
theorem KL.fin {E : REnv} (h : KL k0 fs i f sz w O R B p st w' m tg sc oa c0 ds) (hF : LF fs i f) (hfl : E.fl = true) (hok : ∀ t, tagOK t) (hj : E.jk = none) : RdS w' (fun g => ¬ O g) R sc ∧ AtE E w' O fs ⟨ds, tg⟩ B (p + k0) := by
  have stG : Stay w' w' (fun g => ¬ PL O m oa g) (fun g => ¬ O g) := ⟨fun k hk hg => ⟨rfl, fun e => hg (.inl (.inl e))⟩⟩
  have hs0 := h.chg.size
  refine ⟨h.rd.stay stG rfl, ?_⟩
  obtain ⟨cs0, T0, xs, ds0, q1, q2, q3, q4, q5, q6, q7⟩ := h.at_
  have hsz := hF.ssz
  have hlz := hF.lsz
  refine ⟨cs0, T0, q1, by rw [hfl]; exact q2, (cs0.drop (p + k0)).take (foff true fs i) ++ [.slice oa xs.length c0], [.map m], ?_, ?_, ?_⟩
  · rw [hfl, hsz, seg_snoc (n := foff true fs i + 1) (x := .map m) (by rw [hlz] at q5; exact q5), seg_snoc q4]
  · have := RepL.snoc (RepL.stay stG q3) (f := f) (d := .arr oa.isNone xs) (v := [.slice oa xs.length c0]) (by rw [hF.one]; rfl) (RepF.stay ⟨fun k hk hg => ⟨rfl, ?_⟩⟩ q7)
    · rw [← hF.spl] at this
      rw [hfl]
      show RepL _ _ _ _ ds _
      rw [q6]; exact this
    · rcases hg with hg | hg
      · exact fun e => hg (.inl (.inl e))
      · intro e
        have h1 := (h.oag hg).1
        exact h.oNew k h1 e
  · unfold TgX
    rw [hj]
    show RepT _ _ _ _ _
    rw [hfl]
    unfold RepT
    rw [if_pos rfl]
    exact ⟨m, rfl, h.tg.stay ⟨fun k hk hg => ⟨rfl, fun e => hg (.inl e)⟩⟩, hok _⟩
theorem rk_offO {E : REnv} {I mm : Nat} {a1 : Act} {ver : Int} (hx : E.flex = false) (hfl : E.fl = true) (hj : E.jk = none) (hok : ∀ t, tagOK t) (hk : zam (RS mm) a a1) (hB : RB E a w O R st) (hP : RP (knE E) sS k0 fs a w O R B p s) (hI : fs.length ≤ I) : RdQ E mm k0 fs I (tlO E.flex ver fs) a w O R B p st s .normal a1 w := by
  have hki := KI.start hB hP
  have hf := hki.fin hfl hok hj
  refine ⟨hk, Chg.refl _ _, Rest.of rfl, st, ⟨s.ds, []⟩, hB.rs, hf.2, ?_, Nat.le_refl _, fun j hj => rfl⟩
  unfold Stp
  cases st with
  | none => rfl
  | some bs =>
    rw [Option.bind_some]
    unfold tlO
    rw [hx]
    exact ⟨rfl, rfl⟩
end
def ReadPO (w : World) (flex : Bool) (ver : Int) (fs : List Fld) (B : Nat) (bs : Bs) (v : Value) (w' : World) : Prop := Chg (fun k => k = B) w w' ∧
  ((decPartO flex ver fs bs = none ∧ ∃ t x, v = .iface t x) ∨ ∃ s r, decPartO flex ver fs bs = some (s, r) ∧ v = .nilIface ∧ At w' (fun g => g ≠ B) true fs s B 1 ∧ ∃ cs T, Blk w' B cs T ∧ cs[0]? = some (.int .i16 ver))
def ReadsFo (fn : FuncId) (flx : Int → Bool) (fs : List Fld) (dc : List Value) (extra : List Value) : Prop :=
  ∀ (ver : Int) (w : World) (B : Nat) (T : TypeId) (oa : Option Addr) (bs : Bs) (cap : Nat), 0 ≤ ver → Blk w B (.int .i16 ver :: dc) T → zaq w (fun g => g ≠ B) oa bs → bs.length ≤ cap → bs.length ≤ RLIM → B ≠ gE → ErrW w →
    zaD Tryd.prog fn (#[.pointer (some ⟨B, 0, none⟩), .slice oa bs.length cap] ++ extra.toArray) w (ReadPO w (flx ver) ver fs B bs)
theorem semL_zero {N rr : Nat} {fl flex : Bool} {ver : Int} {jk : Option Value} {fs : List Fld} (tl : Sem) (bs : Bs) : semL ⟨N, ver, flex, fl, rr, jk⟩ fs 0 tl ⟨dfltL fs, []⟩ bs = (decL flex ver fs bs).bind fun x => tl ⟨x.1, []⟩ x.2 := by
  unfold semL
  simp only [List.drop_zero, List.take_zero, List.nil_append]
section
variable {y0 y1 y2 y3 y4 y5 y6 y7 y8 y9 y10 y11 y12 y13 y14 y15 y16 y17 y18 y19 y20 y21 y22 y23 y24 y25 y26 y27 y28 y29 y30 y31 y32 y33 y34 y35 y36 y37 y38 y39 : TypeId} {q0 q1 q2 q3 q4 q5 q6 q7 q8 q9 q10 q11 q12 q13 q14 q15 q16 q17 q18 q19 q20 q21 q22 q23 q24 q25 q26 q27 q28 q29 q30 q31 q32 q33 q34 q35 q36 q37 q38 q39 : String} {e0 e1 e2 e3 e4 e5 e6 e7 e8 e9 e10 e11 e12 e13 e14 e15 e16 e17 e18 e19 e20 e21 e22 e23 e24 e25 e26 e27 e28 e29 e30 e31 e32 e33 e34 e35 e36 e37 e38 e39 : Array Edge} {r0 r1 r2 r3 r4 r5 : Nat}
variable {m sS B R T : Nat} {N : Nat} {us us2 : Array TypeId} {fs : List Fld} {c : Code} {dc : List Value} {ver : Int} {a : Act} {w w0 : World} {oa : Option Addr} {bs : Bs} {cap : Nat} {fnD : FuncId} {Q : Exit → Act → World → Prop} {r6 r7 r8 r9 : Nat}
theorem read_endKo {k0 NN rr : Nat} {flex : Bool} (hk0 : k0 = 1) (h : RkT ⟨NN, ver, flex, true, rr, none⟩ m sS k0 fs (Fresh fs 0) (semL ⟨NN, ver, flex, true, rr, none⟩ fs 0 (tlO flex ver fs)) c) (hB : RB ⟨NN, ver, flex, true, rr, none⟩ a w (fun g => g = B ∨ g = R) R (some bs)) (hP : RP (knE ⟨NN, ver, flex, true, rr, none⟩) sS k0 fs a w (fun g => g = B ∨ g = R) R B 0 ⟨dfltL fs, []⟩)
    (hb : ∃ cs T, Blk w B cs T ∧ cs[0]? = some (.int .i16 ver)) (hc : Chg (fun k => k = B) w0 w) (hR : w0.heap.size ≤ R) : c.wp Tryd.prog (Fin 6 (ReadPO w0 flex ver fs B bs)) a w := by
  subst hk0
  refine wp_mono (h a w _ R B 0 (some bs) _ hB hP (fresh0 fs)) ?_
  intro e a1 w1 hq
  cases e <;> try exact hq.elim
  obtain ⟨hd, hq⟩ := hq
  rw [Option.bind_some, semL_zero] at hq
  refine ⟨hd, ?_⟩
  rcases hq with ⟨k1, ⟨t, x, k2⟩, k3⟩ | ⟨s, r, k1, k2, k3, k4, k5⟩
  · exact ⟨hc.trans k3 fun k hk h => by rcases h with h | h; exact h; omega, .inl ⟨k1, t, x, k2⟩⟩
  · refine ⟨hc.trans k3 fun k hk h => by rcases h with h | h; omega; exact h, .inr ⟨s, r, k1, k2, ?_, ?_⟩⟩
    · rw [Nat.zero_add] at k4
      exact k4.stay (Stay.sub fun k _ h hb => h (.inl hb)) rfl
    · obtain ⟨cs, T, q1, q2⟩ := hb
      obtain ⟨cs', q3, q4, q5⟩ := k5 cs T q1
      exact ⟨cs', T, q3, by rw [q5 0 (.inl (by omega))]; exact q2⟩
theorem read_flexKo {fn : FuncId} {func : Func} {N t1 t2 t3 t4 T ty u v1 v2 v3 v4 v5 v6 v7 v8 v9 fnD : Nat} {vf : Int} {fs : List Fld} {c : Code} {dc : List Value}
    (hfn : (Tryd.prog).funcs[fn]? = some func)
    (hbody : func.body = some (.seq (.region r0 #[⟨some 6, .assign (.const .nilIface), y0, q0, e0, none⟩] false) (.seq (.region r1 #[⟨some t1, .move (.tmp 0), y1, q1, e1, none⟩, ⟨some t2, .call { callee := .value (.func fnD), args := #[.tmp t1], argTypes := us }, y2, q2, e2, none⟩] false)
      (.seq (.region r2 #[⟨some t3, .move (.tmp 1), y3, q3, e3, none⟩, ⟨some t4, .build tR #[(0, .tmp t3)], y4, q4, e4, none⟩, ⟨some 7, .alloc tR, y5, q5, e5, none⟩, ⟨none, .store tR (.tmp 7) (.tmp t4), y6, q6, e6, none⟩] false)
        (.seq (.region r3 #[⟨some v1, .move (.tmp 0), y7, q7, e7, none⟩, ⟨some v2, .nilCheck (.tmp v1), y8, q8, e8, none⟩, ⟨some v3, .fieldAddr T (.tmp v2) 0, y9, q9, e9, none⟩, ⟨some v4, .load ty (.tmp v3), y10, q10, e10, none⟩, ⟨some 8, .assign (.tmp v4), y11, q11, e11, none⟩] false)
        (.seq (.region r4 #[⟨some v5, .move (.tmp 8), y12, q12, e12, none⟩] false) (.seq (.region r5 #[⟨some v7, .move (.tmp 8), y13, q13, e13, none⟩, ⟨some v8, .binOp .geq u (.tmp v7) (.const (.int .i16 vf)) u, y14, q14, e14, none⟩, ⟨some 9, .assign (.tmp v8), y15, q15, e15, none⟩] false) (.seq (.region r6 #[⟨some v9, .move (.tmp 9), y16, q16, e16, none⟩] false) (.seq (.region r7 #[⟨some v6, .move (.tmp 0), y17, q17, e17, none⟩, ⟨some 10, .assign (.tmp v6), y18, q18, e18, none⟩] false) c)))))))))
    (hres : func.results = #[.tmp 6]) (hNf : func.ntmps = N) (hen : zaK Tryd.prog fnD) (hdef : DefM fnD dc)
    (hF : ((decide ((0 :: 1 :: 2 :: 6 :: 7 :: 8 :: 9 :: 10 :: [t1, t2, t3, t4]).Nodup) && [0, 1, 2, 6, 7, 8, t1, t2, t3, t4].all (fun t => decide (t < N))) && decide ((0 :: 1 :: 2 :: 7 :: 8 :: 9 :: 10 :: [v1, v2, v3, v4, v5, v6, v7, v8, v9]).Nodup) && [8, 9, 10, v1, v2, v3, v4, v5, v6, v7, v8, v9].all (fun t => decide (t < N)) && zaR Tryd.prog T 0 0 1 && scalB Tryd.prog ty && repSB true fs (dfltL fs) dc && decide (dc.length = ssz true fs)) = true)
    (h : ∀ ver : Int, 0 ≤ ver → RkT ⟨N, ver, decide (vf ≤ ver), true, 7, none⟩ 11 10 1 fs (Fresh fs 0) (semL ⟨N, ver, decide (vf ≤ ver), true, 7, none⟩ fs 0 (tlO (decide (vf ≤ ver)) ver fs)) c) : ReadsFo fn (fun ver => decide (vf ≤ ver)) fs dc [.bool false] := by
  simp only [Bool.and_eq_true, decide_eq_true_eq (p := List.Nodup _), decide_eq_true_eq (p := dc.length = _)] at hF
  obtain ⟨⟨⟨⟨⟨⟨hF0, hnd⟩, hlt⟩, f1⟩, f2⟩, f3⟩, f4⟩ := hF
  simp only [List.all_eq_true, decide_eq_true_eq] at hlt
  simp only [List.nodup_cons, List.mem_cons, List.not_mem_nil, or_false, not_or, List.nodup_nil, and_true, not_false_eq_true, forall_eq_or_imp, forall_eq] at hnd hlt
  intro ver w B Tm oa bs cap hver hb hsrc hcap hlim hBE herr
  refine zat hfn hbody hres hNf (by show 3 ≤ N; omega) ?_
  intro a hN hD ha
  have h0 : get a 0 = .pointer (some ⟨B, 0, none⟩) := ha 0 _ rfl
  have h1 : get a 1 = .slice oa bs.length cap := ha 1 _ rfl
  have h2 : get a 2 = .bool false := ha 2 _ rfl
  refine read_start hN hD h0 h1 (by simp only [Bool.and_eq_true]; exact ⟨decide_eq_true hF0.1, hF0.2⟩) hen hdef hb hsrc hcap hlim hBE herr fun a1 w1 R hk g7 hr hb1 hc hR1 hR2 hRB herr1 => ?_
  have hN1 : a1.tmps.size = N := hk.size.trans hN
  have hD1 : a1.defers = [] := hk.defers.trans hD
  have g0 : get a1 0 = .pointer (some ⟨B, 0, none⟩) := (hk.slot 0 (.inl rfl)).trans h0
  have g2 : get a1 2 = .bool false := (hk.slot 2 (.inr (.inr rfl))).trans h2
  clear hF0 hk ha h0 h1 h2
  refine wp_seq_k fun K hK => ?_
  refine zai ?_
  refine zal ?_
  simp only [zac, zaf, zaa, zab, zad, ne_eq, zae, hN1, hnd, hlt, not_false_eq_true, g0, g2, g7]
  refine zaI (p := ⟨B, 0, none⟩) (by simp only [zac, zaf, zaa, zab, zad, ne_eq, zae, hN1, hnd, hlt, not_false_eq_true, g0, g2, g7]) ?_
  refine zaE (b := B) (o := 0) f1 (by simp only [zac, zaf, zaa, zab, zad, ne_eq, zae, hN1, hnd, hlt, not_false_eq_true, g0, g2, g7]) ?_
  refine wl_load (b := B) (o := 0 + 0) f2 (by simp only [zac, zaf, zaa, zab, zad, ne_eq, zae, hN1, hnd, hlt, not_false_eq_true, g0, g2, g7]) hb1 rfl ?_
  refine zak ?_
  simp only [zac, zaf, zaa, zab, zad, ne_eq, zae, hN1, hnd, hlt, not_false_eq_true, g0, g2, g7]
  refine zah (hK _ _ ?_)
  clear hK K
  refine wp_seq_k fun K hK => ?_
  refine zai ?_
  refine zal ?_
  simp only [zac, zaf, zaa, zab, zad, ne_eq, zae, hN1, hnd, hlt, not_false_eq_true, g0, g2, g7]
  refine zah (hK _ _ ?_)
  clear hK K
  refine wp_seq_k fun K hK => ?_
  refine zai ?_
  refine zal ?_
  simp only [zac, zaf, zaa, zab, zad, ne_eq, zae, hN1, hnd, hlt, not_false_eq_true, g0, g2, g7]
  refine wl_geq (by simp only [zac, zaf, zaa, zab, zad, ne_eq, zae, hN1, hnd, hlt, not_false_eq_true, g0, g2, g7]; rfl) ?_
  simp only [zac, zaf, zaa, zab, zad, ne_eq, zae, hN1, hnd, hlt, not_false_eq_true, g0, g2, g7]
  simp only [cmp2]
  refine zak ?_
  simp only [zac, zaf, zaa, zab, zad, ne_eq, zae, hN1, hnd, hlt, not_false_eq_true, g0, g2, g7]
  refine zah (hK _ _ ?_)
  clear hK K
  refine wp_seq_k fun K hK => ?_
  refine zai ?_
  refine zal ?_
  simp only [zac, zaf, zaa, zab, zad, ne_eq, zae, hN1, hnd, hlt, not_false_eq_true, g0, g2, g7]
  refine zah (hK _ _ ?_)
  clear hK K
  refine wp_seq_k fun K hK => ?_
  refine zai ?_
  refine zal ?_
  simp only [zac, zaf, zaa, zab, zad, ne_eq, zae, hN1, hnd, hlt, not_false_eq_true, g0, g2, g7]
  refine zak ?_
  simp only [zac, zaf, zaa, zab, zad, ne_eq, zae, hN1, hnd, hlt, not_false_eq_true, g0, g2, g7]
  refine zah (hK _ _ ?_)
  clear hK K
  refine read_endKo (NN := N) (rr := 7) (flex := decide (vf ≤ ver)) rfl (h ver hver) ⟨⟨by simp only [zae, hN1], by simp only [zaj, hD1], by simp only [zac, zaf, zaa, zab, zad, ne_eq, zae, hN1, hnd, hlt, not_false_eq_true, g0, g2, g7], by simp only [zac, zaf, zaa, zab, zad, ne_eq, zae, hN1, hnd, hlt, not_false_eq_true, g0, g2, g7], fun e => by simp only [zac, zaf, zaa, zab, zad, ne_eq, zae, hN1, hnd, hlt, not_false_eq_true, g0, g2, g7]⟩, by simp only [zac, zaf, zaa, zab, zad, ne_eq, zae, hN1, hnd, hlt, not_false_eq_true, g0, g2, g7], hr, .inr rfl, fun h => ?_, herr1, fun k hk h => ?_, hlim⟩ ⟨by simp only [zac, zaf, zaa, zab, zad, ne_eq, zae, hN1, hnd, hlt, not_false_eq_true, g0, g2, g7], ⟨_, _, hb1, ?_, ?_⟩, .inl rfl, hRB⟩ ⟨_, _, hb1, rfl⟩ hc hR1
  · clear hnd
    rcases h with h | h
    · exact hBE h.symm
    · rw [← h] at hR1
      have := gE_lt herr
      omega
  · clear hnd
    rcases h with h | h
    · have := hb1.lt; omega
    · omega
  · clear hnd
    simp only [List.length_cons]; omega
  · clear hnd
    rw [show (0 : Nat) + 1 = 1 from rfl, List.drop_succ_cons, List.drop_zero, List.take_of_length_le (by simp only; omega)]
    exact AtE.ofK (E := ⟨N, ver, decide (vf ≤ ver), true, 7, none⟩) rfl f3
end
end Go.Proofs.YtojpodeljpfgaabDoor
namespace Go.Proofs.YtojpodeljpfgaabDoor
set_option linter.all false
open Go.RowKit
set_option maxRecDepth 10000
set_option maxHeartbeats 2000000
section
variable {y0 y1 y2 y3 y4 y5 y6 y7 y8 y9 y10 y11 y12 y13 y14 y15 y16 y17 y18 y19 y20 y21 y22 y23 y24 y25 y26 y27 y28 y29 y30 y31 y32 y33 y34 y35 y36 y37 y38 y39 : TypeId} {q0 q1 q2 q3 q4 q5 q6 q7 q8 q9 q10 q11 q12 q13 q14 q15 q16 q17 q18 q19 q20 q21 q22 q23 q24 q25 q26 q27 q28 q29 q30 q31 q32 q33 q34 q35 q36 q37 q38 q39 : String} {e0 e1 e2 e3 e4 e5 e6 e7 e8 e9 e10 e11 e12 e13 e14 e15 e16 e17 e18 e19 e20 e21 e22 e23 e24 e25 e26 e27 e28 e29 e30 e31 e32 e33 e34 e35 e36 e37 e38 e39 : Array Edge} {r0 r1 r2 r3 r4 r5 : Nat}
variable {r6 r7 r8 r9 r10 r11 r12 r13 r14 : Nat}
variable {y40 y41 y42 y43 y44 y45 y46 y47 y48 y49 y50 y51 y52 y53 y54 : TypeId} {q40 q41 q42 q43 q44 q45 q46 q47 q48 q49 q50 q51 q52 q53 q54 : String} {e40 e41 e42 e43 e44 e45 e46 e47 e48 e49 e50 e51 e52 e53 e54 : Array Edge}
variable {E : REnv} {m mB sS k0 i I x y ys aS iS lS vS t1 t2 t3 t4 t5 t6 t7 t8 t9 t10 t11 t12 w1' w2' w3' w4' w5' u1 u2 u3 u4 u5 v1 v2 v3 v4 b1 b2 ug uo uc ui n1 n2 n3 n4 n5 n6 n7 un1 un2 : Nat} {fs sub : List Fld} {pre : S → Prop} {c body cl : Code} {us us2 us3 : Array TypeId} {fn : FuncId} {T ty ti idx ua : Nat} {a1 a2 a3 a4 a5 : Int} {of : K} {z : Value}
variable {z4 z5 : TypeId} {p4 p5 : String} {j4 j5 : Array Edge}
end
end Go.Proofs.YtojpodeljpfgaabDoor
namespace Go.Proofs.YtojpodeljpfgaabDoor
set_option linter.all false
open Go.RowKit
set_option maxRecDepth 10000
set_option maxHeartbeats 2000000
section
variable {y0 y1 y2 y3 y4 y5 y6 y7 y8 y9 y10 y11 y12 y13 y14 y15 y16 y17 y18 y19 y20 y21 y22 y23 y24 y25 y26 y27 y28 y29 y30 y31 y32 y33 y34 y35 y36 y37 y38 y39 : TypeId} {q0 q1 q2 q3 q4 q5 q6 q7 q8 q9 q10 q11 q12 q13 q14 q15 q16 q17 q18 q19 q20 q21 q22 q23 q24 q25 q26 q27 q28 q29 q30 q31 q32 q33 q34 q35 q36 q37 q38 q39 : String} {e0 e1 e2 e3 e4 e5 e6 e7 e8 e9 e10 e11 e12 e13 e14 e15 e16 e17 e18 e19 e20 e21 e22 e23 e24 e25 e26 e27 e28 e29 e30 e31 e32 e33 e34 e35 e36 e37 e38 e39 : Array Edge} {r0 r1 r2 r3 r4 r5 : Nat}
variable {r6 r7 r8 r9 r10 r11 r12 : Nat}
variable {E : REnv} {m mB sS k0 i I x y ys t1 t2 t3 t4 t5 t6 : Nat} {fs sub : List Fld} {c : Code} {us : Array TypeId} {fn : FuncId} {T idx : Nat} {a1 a2 a3 a4 a5 : Int} {of : K}
end
section
variable {y0 y1 y2 y3 y4 y5 y6 y7 y8 y9 y10 y11 y12 y13 y14 y15 y16 y17 y18 y19 y20 y21 y22 y23 y24 y25 y26 y27 y28 y29 y30 y31 y32 y33 y34 y35 y36 y37 y38 y39 : TypeId} {q0 q1 q2 q3 q4 q5 q6 q7 q8 q9 q10 q11 q12 q13 q14 q15 q16 q17 q18 q19 q20 q21 q22 q23 q24 q25 q26 q27 q28 q29 q30 q31 q32 q33 q34 q35 q36 q37 q38 q39 : String} {e0 e1 e2 e3 e4 e5 e6 e7 e8 e9 e10 e11 e12 e13 e14 e15 e16 e17 e18 e19 e20 e21 e22 e23 e24 e25 e26 e27 e28 e29 e30 e31 e32 e33 e34 e35 e36 e37 e38 e39 : Array Edge} {r0 r1 r2 r3 r4 r5 : Nat}
variable {E : REnv} {m x t1 : Nat} {us : Array TypeId} {a1 a2 a3 a4 a5 : Int} {of : K} {sub : List Fld}
end
end Go.Proofs.YtojpodeljpfgaabDoor
namespace Go.Proofs.YtojpodeljpfgaabDoor
set_option linter.all false
open Go.RowKit
set_option maxRecDepth 10000
set_option maxHeartbeats 1000000
section
variable {y0 y1 y2 y3 y4 y5 y6 y7 y8 y9 y10 y11 y12 y13 y14 y15 y16 y17 y18 y19 y20 y21 y22 y23 y24 y25 y26 y27 y28 y29 y30 y31 y32 y33 y34 y35 y36 y37 y38 y39 : TypeId} {q0 q1 q2 q3 q4 q5 q6 q7 q8 q9 q10 q11 q12 q13 q14 q15 q16 q17 q18 q19 q20 q21 q22 q23 q24 q25 q26 q27 q28 q29 q30 q31 q32 q33 q34 q35 q36 q37 q38 q39 : String} {e0 e1 e2 e3 e4 e5 e6 e7 e8 e9 e10 e11 e12 e13 e14 e15 e16 e17 e18 e19 e20 e21 e22 e23 e24 e25 e26 e27 e28 e29 e30 e31 e32 e33 e34 e35 e36 e37 e38 e39 : Array Edge} {r0 r1 r2 r3 r4 r5 : Nat}
variable {E : REnv} {m x y t t1 t2 : Nat} {us : Array TypeId} {fn : FuncId} {sem : Bs → Option (Bs × Bs)} {c ca cb cu : Code} {a1 a2 a3 a4 a5 : Int} {of : K} {sub : List Fld}
end
end Go.Proofs.YtojpodeljpfgaabDoor
namespace Go.Proofs.YtojpodeljpfgaabDoor
set_option linter.all false
open Go.RowKit
set_option maxRecDepth 10000
set_option maxHeartbeats 2000000
section
variable {y0 y1 y2 y3 y4 y5 y6 y7 y8 y9 y10 y11 y12 y13 y14 y15 y16 y17 y18 y19 y20 y21 y22 y23 y24 y25 y26 y27 y28 y29 y30 y31 y32 y33 y34 y35 y36 y37 y38 y39 : TypeId} {q0 q1 q2 q3 q4 q5 q6 q7 q8 q9 q10 q11 q12 q13 q14 q15 q16 q17 q18 q19 q20 q21 q22 q23 q24 q25 q26 q27 q28 q29 q30 q31 q32 q33 q34 q35 q36 q37 q38 q39 : String} {e0 e1 e2 e3 e4 e5 e6 e7 e8 e9 e10 e11 e12 e13 e14 e15 e16 e17 e18 e19 e20 e21 e22 e23 e24 e25 e26 e27 e28 e29 e30 e31 e32 e33 e34 e35 e36 e37 e38 e39 : Array Edge} {r0 r1 r2 r3 r4 r5 : Nat}
variable {r6 r7 r8 r9 r10 r11 r12 : Nat} {z5 : TypeId} {p5 : String} {j5 : Array Edge}
variable {E : REnv} {m sS k0 i x y ys t1 t2 t3 t4 t5 t6 u u1 u2 u3 u4 v1 v2 v3 v4 v5 v6 v7 : Nat} {fs sub : List Fld} {c : Code} {us us2 us3 : Array TypeId} {fn : FuncId} {T T2 idx tp : Nat} {a1 a2 a3 a4 a5 : Int} {of : K}
end
end Go.Proofs.YtojpodeljpfgaabDoor
