import Derived.Test.YtojpodeljpfgaaaDoorZ6
/-
What the proofs of the laws rest on, part Z7.
-/
namespace Go.Proofs.YtojpodeljpfgaaaDoor
set_option linter.all false
open Go.RowKit
set_option maxRecDepth 10000
set_option maxHeartbeats 4000000
theorem wp_join {P : Program} {c : Code} {Q : Exit → Act → World → Prop} {Q1 : Act → World → Prop} {a : Act} {w : World} (F : Act → Prop) (h1 : ∀ a, F a → Q1 a w) (h2 : (∀ a, F a → Q1 a w) → c.wp P Q a w) : c.wp P Q a w := h2 h1
theorem recAppend_c {w : World} {G : Nat → Prop} {p : Nat} {x : Kr} {vs : List Value} {T : TypeId} {base : Nat} {v : Value} {bs : Bs} (hp : Blk w p vs T) (h : KrC w G x vs) (hL : KrL x) (hpb : p < base) (hG : ∀ k, G k → k < base) (hown : Own eB w base v bs) (hlim : bs.length + (krB x).length ≤ LIM) (hbase : base ≤ w.heap.size) :
    zan Tryd.prog 18 #[.pointer (some ⟨p, 0, none⟩), v] w (App eB w base v (bs ++ krB x)) := by
  obtain ⟨vk, vv, vh, rfl, q1, q2, q3, q4⟩ := h
  refine zaj Tryd.func18 rfl rfl Tryd.ntmps18 (by simp) ?_
  intro a hN hD hargs
  have h0 : get a 0 = .pointer (some ⟨p, 0, none⟩) := hargs 0 _ rfl
  have h1 : get a 1 = v := hargs 1 _ rfl
  have hk := obB_len x.key
  have hv := obB_len x.val
  have hk1 := hL.key
  have hv1 := hL.val
  have hh1 := hL.hs
  obtain ⟨z1, z2, z3, z4, z5⟩ := q4
  have hpl : (krB x).length = (krPre x).length + (x.hs.flatMap khB).length := by unfold krB; rw [List.length_append]
  have hpr : (krPre x).length = (zaN x.len).length + 1 + (zaN (krDelta x)).length + (zaN x.off).length + (obB x.key).length + (obB x.val).length + (zaN x.hs.length).length := by
    unfold krPre; simp only [List.length_append, zas]
  have hdl : -9223372036854775808 ≤ krDelta x ∧ krDelta x < 9223372036854775808 := by unfold krDelta; split <;> omega
  refine wp_seq_k fun K hK => ?_; refine zac ?_; refine zaF ?_; refine zaa ?_; refine hK _ _ ?_; clear hK K
  refine zaw fun a0 ha => ?_
  have hN' : a0.tmps.size = 98 := by rw [ha]; simp only [zaf]; exact hN
  have hD' : a0.defers = [] := by rw [ha]; simp only [zab]; exact hD
  have g0 : get a0 0 = .pointer (some ⟨p, 0, none⟩) := by rw [ha]; simp only [evb, pvb, rnb, kb, hN, seval, h0]
  have g1 : get a0 1 = v := by rw [ha]; simp only [evb, pvb, rnb, kb, hN, seval, h1]
  clear ha hN hD h0 h1 hargs
  have hN := hN'
  have hD := hD'
  clear hN' hD'
  have l := hp.ld (i := 0) (v := .int .i32 x.len) rfl
  refine wp_seq_k fun K hK => ?_; refine wp_seq_k fun K1 hK1 => ?_; refine zac ?_; (repeat ((with_reducible refine zah ?_ ?_ ?_); (· simp [evb, pvb, rnb, kb, hN, g0, ofKR, l, dyb, sdb] <;> omega); (· kernel_rfl); try simp only [evb, pvb, rnb, kb, hN, seval, g0, ofKR, l])); refine zaa ?_; refine hK1 _ _ ?_; try clear hK1 K1
  refine zac ?_; (repeat ((with_reducible refine zah ?_ ?_ ?_); (· simp [evb, pvb, rnb, kb, hN, g1, dyb, sdb] <;> omega); (· kernel_rfl); try simp only [evb, pvb, rnb, kb, hN, seval, g1]))
  refine zar (fun args w => Tryd.call31 args w) (AppendVarint_c x.len z1) (by simp only [List.map_toArray, List.map_cons, List.map_nil]; simp only [evb, pvb, rnb, kb, hN, seval, g1]) hown (by first | omega | (simp only [List.length_append, zas]; omega)) hbase trivial ?_
  intro v1 w1 happ
  (repeat ((with_reducible refine zah ?_ ?_ ?_); (· simp [evb, pvb, rnb, kb, hN, dyb, sdb] <;> omega); (· kernel_rfl); try simp only [evb, pvb, rnb, kb, hN, seval])); refine zaa ?_; refine hK _ _ ?_; clear hK K
  have hA := happ
  refine zaw fun a1 ha => ?_
  have hN' : a1.tmps.size = 98 := by rw [ha]; simp only [zaf]; exact hN
  have hD' : a1.defers = [] := by rw [ha]; simp only [zab]; exact hD
  have g0' : get a1 0 = .pointer (some ⟨p, 0, none⟩) := by rw [ha]; simp only [evb, pvb, rnb, kb, hN, seval, g0]
  have g1' : get a1 1 = v1 := by rw [ha]; simp only [evb, pvb, rnb, kb, hN, seval]
  clear ha happ hN hD g0 g1 l
  have hN := hN'
  have hD := hD'
  have g0 := g0'
  have g1 := g1'
  clear hN' hD' g0' g1'
  have hb := hp.chg (hA.chgFrom hown) (by omega)
  have l := hb.ld (i := 1) (v := .int .i8 x.attr) rfl
  refine wp_seq_k fun K hK => ?_; refine wp_seq_k fun K1 hK1 => ?_; refine zac ?_; (repeat ((with_reducible refine zah ?_ ?_ ?_); (· simp [evb, pvb, rnb, kb, hN, g0, ofKR, l, dyb, sdb] <;> omega); (· kernel_rfl); try simp only [evb, pvb, rnb, kb, hN, seval, g0, ofKR, l])); refine zaa ?_; refine hK1 _ _ ?_; try clear hK1 K1
  refine zac ?_; (repeat ((with_reducible refine zah ?_ ?_ ?_); (· simp [evb, pvb, rnb, kb, hN, g1, dyb, sdb] <;> omega); (· kernel_rfl); try simp only [evb, pvb, rnb, kb, hN, seval, g1]))
  refine zar (fun args w => Tryd.call32 args w) (AppendInt8_c x.attr) (by simp only [List.map_toArray, List.map_cons, List.map_nil]; simp only [evb, pvb, rnb, kb, hN, seval, g1]) hA.own (by first | omega | (simp only [List.length_append, zas]; omega)) (Nat.le_trans hbase hA.chg.size) trivial ?_
  intro v2 w2 happ
  (repeat ((with_reducible refine zah ?_ ?_ ?_); (· simp [evb, pvb, rnb, kb, hN, dyb, sdb] <;> omega); (· kernel_rfl); try simp only [evb, pvb, rnb, kb, hN, seval])); refine zaa ?_; refine hK _ _ ?_; clear hK K
  rw [List.append_assoc] at happ
  have hA := hA.trans happ
  refine zaw fun a2 ha => ?_
  have hN' : a2.tmps.size = 98 := by rw [ha]; simp only [zaf]; exact hN
  have hD' : a2.defers = [] := by rw [ha]; simp only [zab]; exact hD
  have g0' : get a2 0 = .pointer (some ⟨p, 0, none⟩) := by rw [ha]; simp only [evb, pvb, rnb, kb, hN, seval, g0]
  have g1' : get a2 1 = v2 := by rw [ha]; simp only [evb, pvb, rnb, kb, hN, seval]
  clear ha happ hN hD g0 g1 l hb
  have hN := hN'
  have hD := hD'
  have g0 := g0'
  have g1 := g1'
  clear hN' hD' g0' g1'
  have hb := hp.chg (hA.chgFrom hown) (by omega)
  have l3 := hb.ld (i := 3) (v := .int .i64 x.d64) rfl
  have l2 := hb.ld (i := 2) (v := .int .i32 x.d32) rfl
  have hi32 : IntKind.i64.wrap x.d32 = x.d32 := i64_sm _ (by omega)
  refine wp_seq_k fun K hK => ?_; refine wp_seq_k fun K1 hK1 => ?_; refine zac ?_; (repeat ((with_reducible refine zah ?_ ?_ ?_); (· simp [evb, pvb, rnb, kb, hN, g0, ofKR, l3, dyb, sdb] <;> omega); (· kernel_rfl); try simp only [evb, pvb, rnb, kb, hN, seval, g0, ofKR, l3])); refine zaa ?_; refine hK1 _ _ ?_; try clear hK1 K1
  refine wp_seq_k fun K2 hK2 => ?_
  refine wp_seq_k fun K3 hK3 => ?_; refine zac ?_; (repeat ((with_reducible refine zah ?_ ?_ ?_); (· simp [evb, pvb, rnb, kb, hN, dyb, sdb] <;> omega); (· kernel_rfl); try simp only [evb, pvb, rnb, kb, hN, seval])); refine zaa ?_; refine hK3 _ _ ?_; try clear hK3 K3
  refine wp_join (Q1 := K2) (fun a' => a'.tmps.size = 98 ∧ a'.defers = [] ∧ get a' 0 = .pointer (some ⟨p, 0, none⟩) ∧ get a' 1 = v2 ∧ get a' 7 = .int .i64 (krDelta x)) ?_ fun fin => ?_
  rotate_left
  · by_cases hz : x.d64 = 0
    · have e : krDelta x = x.d32 := if_pos hz
      refine wp_cond_true (by simp [evb, kb, hN, hz, sdb]) ?_
      refine zac ?_; (repeat ((with_reducible refine zah ?_ ?_ ?_); (· simp [evb, pvb, rnb, kb, hN, g0, ofKR, l2, hi32, dyb, sdb] <;> omega); (· kernel_rfl); try simp only [evb, pvb, rnb, kb, hN, seval, g0, ofKR, l2, hi32])); refine zaa ?_
      exact fin _ ⟨by simp only [zaf, hN], by simp only [zab, hD], by simp only [evb, pvb, rnb, kb, hN, seval, g0], by simp only [evb, pvb, rnb, kb, hN, seval, g1], by simp only [evb, pvb, rnb, kb, hN, seval, e]⟩
    · have e : krDelta x = x.d64 := if_neg hz
      have hzd : decide (x.d64 = 0) = false := decide_eq_false hz
      refine wp_cond_false (by simp [evb, kb, hN, hz, sdb]) ?_
      refine wp_skip (fin _ ⟨by simp only [zaf, hN], by simp only [zab, hD], by simp only [evb, pvb, rnb, kb, hN, seval, g0], by simp only [evb, pvb, rnb, kb, hN, seval, g1], by simp only [evb, pvb, rnb, kb, hN, seval, e]⟩)
  clear hN hD g0 g1
  rintro a0' ⟨hN, hD, g0, g1, g7⟩
  refine hK2 _ _ ?_
  clear hK2 K2
  refine zac ?_; (repeat ((with_reducible refine zah ?_ ?_ ?_); (· simp [evb, pvb, rnb, kb, hN, g1, g7, dyb, sdb] <;> omega); (· kernel_rfl); try simp only [evb, pvb, rnb, kb, hN, seval, g1, g7]))
  refine zar (fun args w => Tryd.call33 args w) (AppendVarlong_c (krDelta x) hdl) (by simp only [List.map_toArray, List.map_cons, List.map_nil]; simp only [evb, pvb, rnb, kb, hN, seval, g1]) hA.own (by first | omega | (simp only [List.length_append, zas]; omega)) (Nat.le_trans hbase hA.chg.size) trivial ?_
  intro v3 w3 happ
  (repeat ((with_reducible refine zah ?_ ?_ ?_); (· simp [evb, pvb, rnb, kb, hN, dyb, sdb] <;> omega); (· kernel_rfl); try simp only [evb, pvb, rnb, kb, hN, seval])); refine zaa ?_; refine hK _ _ ?_; clear hK K
  rw [List.append_assoc] at happ
  have hA := hA.trans happ
  refine zaw fun a3 ha => ?_
  have hN' : a3.tmps.size = 98 := by rw [ha]; simp only [zaf]; exact hN
  have hD' : a3.defers = [] := by rw [ha]; simp only [zab]; exact hD
  have g0' : get a3 0 = .pointer (some ⟨p, 0, none⟩) := by rw [ha]; simp only [evb, pvb, rnb, kb, hN, seval, g0]
  have g1' : get a3 1 = v3 := by rw [ha]; simp only [evb, pvb, rnb, kb, hN, seval]
  clear ha happ hN hD g0 g1 l3 l2 hi32 g7 hb
  have hN := hN'
  have hD := hD'
  have g0 := g0'
  have g1 := g1'
  clear hN' hD' g0' g1'
  have hb := hp.chg (hA.chgFrom hown) (by omega)
  have l := hb.ld (i := 4) (v := .int .i32 x.off) rfl
  refine wp_seq_k fun K hK => ?_; refine wp_seq_k fun K1 hK1 => ?_; refine zac ?_; (repeat ((with_reducible refine zah ?_ ?_ ?_); (· simp [evb, pvb, rnb, kb, hN, g0, ofKR, l, dyb, sdb] <;> omega); (· kernel_rfl); try simp only [evb, pvb, rnb, kb, hN, seval, g0, ofKR, l])); refine zaa ?_; refine hK1 _ _ ?_; try clear hK1 K1
  refine zac ?_; (repeat ((with_reducible refine zah ?_ ?_ ?_); (· simp [evb, pvb, rnb, kb, hN, g1, dyb, sdb] <;> omega); (· kernel_rfl); try simp only [evb, pvb, rnb, kb, hN, seval, g1]))
  refine zar (fun args w => Tryd.call31 args w) (AppendVarint_c x.off z5) (by simp only [List.map_toArray, List.map_cons, List.map_nil]; simp only [evb, pvb, rnb, kb, hN, seval, g1]) hA.own (by first | omega | (simp only [List.length_append, zas]; omega)) (Nat.le_trans hbase hA.chg.size) trivial ?_
  intro v4 w4 happ
  (repeat ((with_reducible refine zah ?_ ?_ ?_); (· simp [evb, pvb, rnb, kb, hN, dyb, sdb] <;> omega); (· kernel_rfl); try simp only [evb, pvb, rnb, kb, hN, seval])); refine zaa ?_; refine hK _ _ ?_; clear hK K
  rw [List.append_assoc] at happ
  have hA := hA.trans happ
  refine zaw fun a4 ha => ?_
  have hN' : a4.tmps.size = 98 := by rw [ha]; simp only [zaf]; exact hN
  have hD' : a4.defers = [] := by rw [ha]; simp only [zab]; exact hD
  have g0' : get a4 0 = .pointer (some ⟨p, 0, none⟩) := by rw [ha]; simp only [evb, pvb, rnb, kb, hN, seval, g0]
  have g1' : get a4 1 = v4 := by rw [ha]; simp only [evb, pvb, rnb, kb, hN, seval]
  clear ha happ hN hD g0 g1 l hb
  have hN := hN'
  have hD := hD'
  have g0 := g0'
  have g1 := g1'
  clear hN' hD' g0' g1'
  have hb := hp.chg (hA.chgFrom hown) (by omega)
  obtain ⟨vk1, vk2⟩ : (∃ oa n c, vk = .slice oa n c) ∧ True := ⟨by have := q1; unfold outNB at this; revert this; cases x.key with
    | none => rintro rfl; exact ⟨_, _, _, rfl⟩
    | some l => rintro ⟨b, cap, rfl, _⟩; exact ⟨_, _, _, rfl⟩, trivial⟩
  obtain ⟨oavk, nvk, cvk, hvk⟩ := vk1
  have l := hb.ld (i := 5) (v := vk) rfl
  rw [hvk] at l
  refine wp_seq_k fun K hK => ?_; refine wp_seq_k fun K1 hK1 => ?_; refine zac ?_; (repeat ((with_reducible refine zah ?_ ?_ ?_); (· simp [evb, pvb, rnb, kb, hN, g0, ofKR, l, dyb, sdb] <;> omega); (· kernel_rfl); try simp only [evb, pvb, rnb, kb, hN, seval, g0, ofKR, l])); refine zaa ?_; refine hK1 _ _ ?_; try clear hK1 K1
  refine zac ?_; (repeat ((with_reducible refine zah ?_ ?_ ?_); (· simp [evb, pvb, rnb, kb, hN, g1, dyb, sdb] <;> omega); (· kernel_rfl); try simp only [evb, pvb, rnb, kb, hN, seval, g1]))
  refine zak (fun args w => Tryd.call34 args w) (by simp only [List.map_toArray, List.map_cons, List.map_nil, evb, kb, hN, seval, g1]; rw [← hvk]; exact AppendVarintBytes_o (q1.stay (Stay.of (hA.chgFrom hown) fun k hk _ e => by have := hG k hk; omega)) (by omega) hA.own (by first | omega | (simp only [List.length_append, zas]; omega)) (Nat.le_trans hbase hA.chg.size) hG) ?_
  intro v5 w5 happ
  (repeat ((with_reducible refine zah ?_ ?_ ?_); (· simp [evb, pvb, rnb, kb, hN, dyb, sdb] <;> omega); (· kernel_rfl); try simp only [evb, pvb, rnb, kb, hN, seval])); refine zaa ?_; refine hK _ _ ?_; clear hK K
  rw [List.append_assoc] at happ
  have hA := hA.trans happ
  refine zaw fun a5 ha => ?_
  have hN' : a5.tmps.size = 98 := by rw [ha]; simp only [zaf]; exact hN
  have hD' : a5.defers = [] := by rw [ha]; simp only [zab]; exact hD
  have g0' : get a5 0 = .pointer (some ⟨p, 0, none⟩) := by rw [ha]; simp only [evb, pvb, rnb, kb, hN, seval, g0]
  have g1' : get a5 1 = v5 := by rw [ha]; simp only [evb, pvb, rnb, kb, hN, seval]
  clear ha happ hN hD g0 g1 l hb
  have hN := hN'
  have hD := hD'
  have g0 := g0'
  have g1 := g1'
  clear hN' hD' g0' g1'
  have hb := hp.chg (hA.chgFrom hown) (by omega)
  obtain ⟨vv1, vv2⟩ : (∃ oa n c, vv = .slice oa n c) ∧ True := ⟨by have := q2; unfold outNB at this; revert this; cases x.val with
    | none => rintro rfl; exact ⟨_, _, _, rfl⟩
    | some l => rintro ⟨b, cap, rfl, _⟩; exact ⟨_, _, _, rfl⟩, trivial⟩
  obtain ⟨oavv, nvv, cvv, hvv⟩ := vv1
  have l := hb.ld (i := 6) (v := vv) rfl
  rw [hvv] at l
  refine wp_seq_k fun K hK => ?_; refine wp_seq_k fun K1 hK1 => ?_; refine zac ?_; (repeat ((with_reducible refine zah ?_ ?_ ?_); (· simp [evb, pvb, rnb, kb, hN, g0, ofKR, l, dyb, sdb] <;> omega); (· kernel_rfl); try simp only [evb, pvb, rnb, kb, hN, seval, g0, ofKR, l])); refine zaa ?_; refine hK1 _ _ ?_; try clear hK1 K1
  refine zac ?_; (repeat ((with_reducible refine zah ?_ ?_ ?_); (· simp [evb, pvb, rnb, kb, hN, g1, dyb, sdb] <;> omega); (· kernel_rfl); try simp only [evb, pvb, rnb, kb, hN, seval, g1]))
  refine zak (fun args w => Tryd.call34 args w) (by simp only [List.map_toArray, List.map_cons, List.map_nil, evb, kb, hN, seval, g1]; rw [← hvv]; exact AppendVarintBytes_o (q2.stay (Stay.of (hA.chgFrom hown) fun k hk _ e => by have := hG k hk; omega)) (by omega) hA.own (by first | omega | (simp only [List.length_append, zas]; omega)) (Nat.le_trans hbase hA.chg.size) hG) ?_
  intro v6 w6 happ
  (repeat ((with_reducible refine zah ?_ ?_ ?_); (· simp [evb, pvb, rnb, kb, hN, dyb, sdb] <;> omega); (· kernel_rfl); try simp only [evb, pvb, rnb, kb, hN, seval])); refine zaa ?_; refine hK _ _ ?_; clear hK K
  rw [List.append_assoc] at happ
  have hA := hA.trans happ
  refine zaw fun a6 ha => ?_
  have hN' : a6.tmps.size = 98 := by rw [ha]; simp only [zaf]; exact hN
  have hD' : a6.defers = [] := by rw [ha]; simp only [zab]; exact hD
  have g0' : get a6 0 = .pointer (some ⟨p, 0, none⟩) := by rw [ha]; simp only [evb, pvb, rnb, kb, hN, seval, g0]
  have g1' : get a6 1 = v6 := by rw [ha]; simp only [evb, pvb, rnb, kb, hN, seval]
  clear ha happ hN hD g0 g1 l hb
  have hN := hN'
  have hD := hD'
  have g0 := g0'
  have g1 := g1'
  clear hN' hD' g0' g1'
  have hb := hp.chg (hA.chgFrom hown) (by omega)
  have l := hb.ld (i := 7) (v := vh) rfl
  obtain ⟨oh, ch, hvh, hch⟩ := q3.sl
  rw [hvh] at l
  have hi : IntKind.i32.wrap (x.hs.length : Int) = x.hs.length := i32_sm (by omega)
  refine wp_seq_k fun K hK => ?_; refine wp_seq_k fun K1 hK1 => ?_; refine zac ?_; (repeat ((with_reducible refine zah ?_ ?_ ?_); (· simp [evb, pvb, rnb, kb, hN, g0, ofKR, l, dyb, sdb] <;> omega); (· kernel_rfl); try simp only [evb, pvb, rnb, kb, hN, seval, g0, ofKR, l])); refine zaa ?_; refine hK1 _ _ ?_; try clear hK1 K1
  refine wp_seq_k fun K1 hK1 => ?_; refine zac ?_; (repeat ((with_reducible refine zah ?_ ?_ ?_); (· simp [evb, pvb, rnb, kb, hN, g1, hi, dyb, sdb] <;> omega); (· kernel_rfl); try simp only [evb, pvb, rnb, kb, hN, seval, g1, hi]))
  refine zar (fun args w => Tryd.call31 args w) (AppendVarint_c x.hs.length (by omega)) (by simp only [List.map_toArray, List.map_cons, List.map_nil]; simp only [evb, pvb, rnb, kb, hN, seval, g1]) hA.own (by first | omega | (simp only [List.length_append, zas]; omega)) (Nat.le_trans hbase hA.chg.size) trivial ?_
  intro v7 w7 happ
  (repeat ((with_reducible refine zah ?_ ?_ ?_); (· simp [evb, pvb, rnb, kb, hN, dyb, sdb] <;> omega); (· kernel_rfl); try simp only [evb, pvb, rnb, kb, hN, seval])); refine zaa ?_; refine hK1 _ _ ?_; try clear hK1 K1
  rw [List.append_assoc] at happ
  have hA := hA.trans happ
  refine zaw fun a7 ha => ?_
  have hN' : a7.tmps.size = 98 := by rw [ha]; simp only [zaf]; exact hN
  have hD' : a7.defers = [] := by rw [ha]; simp only [zab]; exact hD
  have g0' : get a7 0 = .pointer (some ⟨p, 0, none⟩) := by rw [ha]; simp only [evb, pvb, rnb, kb, hN, seval, g0]
  have g1' : get a7 1 = v7 := by rw [ha]; simp only [evb, pvb, rnb, kb, hN, seval]
  have g11 : get a7 11 = .slice oh x.hs.length ch := by rw [ha]; simp only [evb, pvb, rnb, kb, hN, seval]
  clear ha happ hN hD g0 g1 l hb hi
  have hN := hN'
  have hD := hD'
  have g0 := g0'
  have g1 := g1'
  clear hN' hD' g0' g1'
  have hA : App eB w base v (bs ++ krPre x) v7 w7 := hA
  have hlm : bs.length + ((krPre x).length + (x.hs.flatMap khB).length) ≤ LIM := by rw [← hpl]; exact hlim
  clear hpr hk hv
  refine wp_seq_k fun K1 hK1 => ?_; refine zac ?_; (repeat ((with_reducible refine zah ?_ ?_ ?_); (· simp [evb, pvb, rnb, kb, hN, g11, dyb, sdb] <;> omega); (· kernel_rfl); try simp only [evb, pvb, rnb, kb, hN, seval, g11])); refine zaa ?_; refine hK1 _ _ ?_; try clear hK1 K1
  refine wp_range (n := x.hs.length) (fun i a' w' => ∃ u, a'.tmps.size = 98 ∧ a'.defers = [] ∧ get a' 11 = .slice oh x.hs.length ch ∧ get a' 1 = u ∧ App eB w base v (bs ++ (krPre x ++ (x.hs.take i).flatMap khB)) u w') 98 (by omega)
    (by simp only [evb, kb, hN, seval]; try rfl) (by simp only [evb, kb, hN, seval]) ⟨v7, by simp only [zaf, hN], by simp only [zab, hD], by simp only [evb, pvb, rnb, kb, hN, seval, g11], by simp only [evb, pvb, rnb, kb, hN, seval, g1], by simpa using hA⟩ ?_ ?_ (by decide) ?_ ?_
  · rintro i a w ⟨_, h, _⟩; exact h
  · rintro i a w t v ht ⟨u, k1, k2, k3, k4, k5⟩
    rcases ht with rfl | rfl | rfl <;> exact ⟨u, by rw [zaf]; exact k1, by rw [zab]; exact k2, by rw [zaq (by decide)]; exact k3, by rw [zaq (by decide)]; exact k4, k5⟩
  · clear hN hD g0 g1 g11 hA
    rintro i a1 w2 hi ⟨u, hN, hD, g11, g1, hA⟩ gn gi
    have hx : x.hs[i]? = some x.hs[i] := by simp [hi]
    have hcut : (x.hs.flatMap khB).length = ((x.hs.take i).flatMap khB).length + (khB x.hs[i]).length + ((x.hs.drop (i + 1)).flatMap khB).length := by
      conv => lhs; rw [← List.take_append_drop i x.hs, List.drop_eq_getElem_cons hi]
      rw [List.flatMap_append, List.flatMap_cons, List.length_append, List.length_append]; omega
    generalize x.hs[i] = y at hx hcut
    obtain ⟨oa, cap, e1, _, hrow⟩ := q3
    rw [hvh] at e1
    obtain ⟨rfl, rfl⟩ : oh = oa ∧ ch = cap := by simpa using e1
    rcases hrow with e | ⟨b, o, cs, T, rfl, hGb, hb, htl⟩
    · rw [e] at hi; simp at hi
    obtain ⟨hcx, hlx⟩ := htl.get one_kh hx
    have hbb := hG b hGb
    have hb2 : Rbk w2 b cs _ := hb.chg (hA.chgFrom hown) (by omega)
    rw [List.length_drop] at hlx
    rw [List.drop_drop] at hcx
    obtain ⟨vy, ey, hy⟩ := hcx
    obtain ⟨oy, ny, cy, hvy⟩ : ∃ oa n c, vy = .slice oa n c := by
      revert hy; unfold outNB; cases y.val with
      | none => rintro rfl; exact ⟨_, _, _, rfl⟩
      | some l => rintro ⟨b, cap, rfl, _⟩; exact ⟨_, _, _, rfl⟩
    have c0 : cs[o + i * 2]? = some (.string ⟨y.key.toArray⟩) := by
      have := congrArg (·[0]?) ey
      simpa [List.getElem?_take, List.getElem?_drop] using this
    have c1 : cs[o + i * 2 + 1]? = some vy := by
      have := congrArg (·[1]?) ey
      simpa [List.getElem?_take, List.getElem?_drop] using this
    have hyL := hL.hk y (List.mem_of_getElem? hx)
    have hkl : (khB y).length = (zaN y.key.length ++ y.key).length + (obB y.val).length := by unfold khB; rw [List.length_append]
    have l0 := hb2.ld c0
    refine wp_seq_k fun K3 hK3 => ?_; refine zac ?_; (repeat ((with_reducible refine zah ?_ ?_ ?_); (· simp [evb, pvb, rnb, kb, hN, gi, dyb, sdb] <;> omega); (· kernel_rfl); try simp only [evb, pvb, rnb, kb, hN, seval, gi])); refine zaa ?_; refine hK3 _ _ ?_; try clear hK3 K3
    refine wp_seq_k fun K3 hK3 => ?_; refine zac ?_; (repeat ((with_reducible refine zah ?_ ?_ ?_); (· simp [evb, pvb, rnb, kb, hN, g11, ofKR, Int.toNat_natCast, dyb, sdb] <;> omega); (· kernel_rfl); try simp only [evb, pvb, rnb, kb, hN, seval, g11, ofKR, Int.toNat_natCast])); refine zaa ?_; refine hK3 _ _ ?_; try clear hK3 K3
    refine wp_seq_k fun K3 hK3 => ?_
    refine wp_seq_k fun K4 hK4 => ?_; refine zac ?_; (repeat ((with_reducible refine zah ?_ ?_ ?_); (· simp [evb, pvb, rnb, kb, hN, ofKR, l0, dyb, sdb] <;> omega); (· kernel_rfl); try simp only [evb, pvb, rnb, kb, hN, seval, ofKR, l0])); refine zaa ?_; refine hK4 _ _ ?_; try clear hK4 K4
    refine zac ?_; (repeat ((with_reducible refine zah ?_ ?_ ?_); (· simp [evb, pvb, rnb, kb, hN, g1, dyb, sdb] <;> omega); (· kernel_rfl); try simp only [evb, pvb, rnb, kb, hN, seval, g1]))
    refine zar (fun args w => Tryd.call35 args w) (AppendVarintString_c y.key (by omega)) (by simp only [List.map_toArray, List.map_cons, List.map_nil]; simp only [evb, pvb, rnb, kb, hN, seval, g1]) hA.own (by simp only [List.length_append] at hkl ⊢; omega) (Nat.le_trans hbase hA.chg.size) trivial ?_
    intro v5 w5 happ
    (repeat ((with_reducible refine zah ?_ ?_ ?_); (· simp [evb, pvb, rnb, kb, hN, dyb, sdb] <;> omega); (· kernel_rfl); try simp only [evb, pvb, rnb, kb, hN, seval])); refine zaa ?_; refine hK3 _ _ ?_; try clear hK3 K3
    have hA5 := hA.trans happ
    have hb5 : Rbk w5 b cs _ := hb.chg (hA5.chgFrom hown) (by omega)
    have l1 := hb5.ld c1
    rw [hvy] at l1
    refine wp_seq_k fun K3 hK3 => ?_; refine zac ?_; (repeat ((with_reducible refine zah ?_ ?_ ?_); (· simp [evb, pvb, rnb, kb, hN, ofKR, l1, dyb, sdb] <;> omega); (· kernel_rfl); try simp only [evb, pvb, rnb, kb, hN, seval, ofKR, l1])); refine zaa ?_; refine hK3 _ _ ?_; try clear hK3 K3
    refine zac ?_; (repeat ((with_reducible refine zah ?_ ?_ ?_); (· simp [evb, pvb, rnb, kb, hN, dyb, sdb] <;> omega); (· kernel_rfl); try simp only [evb, pvb, rnb, kb, hN, seval]))
    refine zak (fun args w => Tryd.call34 args w) (by simp only [List.map_toArray, List.map_cons, List.map_nil, evb, kb, hN, seval]; rw [← hvy]; exact AppendVarintBytes_o (hy.stay (Stay.of (hA5.chgFrom hown) fun k hk _ e => by have := hG k hk; omega)) (by omega) hA5.own (by simp only [List.length_append] at hkl ⊢; omega) (Nat.le_trans hbase hA5.chg.size) hG) ?_
    intro v6 w6 happ6
    (repeat ((with_reducible refine zah ?_ ?_ ?_); (· simp [evb, pvb, rnb, kb, hN, dyb, sdb] <;> omega); (· kernel_rfl); try simp only [evb, pvb, rnb, kb, hN, seval]))
    refine zaa ⟨⟨v6, by simp only [zaf, hN], by simp only [zab, hD], by simp only [evb, pvb, rnb, kb, hN, seval, g11], by simp only [evb, pvb, rnb, kb, hN, seval], ?_⟩, by first | (simp only [evb, pvb, rnb, kb, hN, seval, gn]; done) | exact gn | skip, by first | (simp only [evb, pvb, rnb, kb, hN, seval, gi]; done) | exact gi | skip⟩
    have hA6 := hA5.trans happ6
    rw [List.take_succ, hx, Option.toList_some, List.flatMap_append, List.flatMap_cons, List.flatMap_nil, List.append_nil]
    have e : bs ++ (krPre x ++ ((x.hs.take i).flatMap khB ++ khB y)) = bs ++ (krPre x ++ (x.hs.take i).flatMap khB) ++ (zaN y.key.length ++ y.key) ++ obB y.val := by unfold khB; simp only [List.append_assoc]
    rw [e]
    exact hA6
  · clear hN hD g0 g1 g11 hA
    rintro a1 w2 ⟨u, hN, hD, g11, g1, hA⟩
    refine hK _ _ ?_
    clear hK K
    refine wp_seq_k fun K hK => ?_; refine zac ?_; (repeat ((with_reducible refine zah ?_ ?_ ?_); (· simp [evb, pvb, rnb, kb, hN, g1, dyb, sdb] <;> omega); (· kernel_rfl); try simp only [evb, pvb, rnb, kb, hN, seval, g1])); refine zaa ?_; refine hK _ _ ?_; clear hK K; refine wp_ret ⟨by simp [zab, hD], ?_⟩; simp only [evb, kb, hN, seval]
    rw [List.take_length] at hA
    exact hA
end Go.Proofs.YtojpodeljpfgaaaDoor
namespace Go.Proofs.YtojpodeljpfgaaaDoor
set_option linter.all false
open Go.RowKit
set_option maxRecDepth 10000
set_option maxHeartbeats 2000000
def waitsB (ops : Array Oper) (k i : Nat) : Bool := match ops[k]? with
  | some o => o.after.any fun e => Region.binds .any e && e.on == i
  | none => true
def schedKB (ops : Array Oper) (k : Nat) : List (Bool × Nat) → Array Bool → Bool
  | [], l => (Region.ready .any ops l == [k]) && (Region.ready .any ops (l.setIfInBounds k true)).isEmpty
  | (true, i) :: r, l => !(i == k) && waitsB ops k i && Region.free .any ops l i && (Region.ready .any ops l).contains i && schedKB ops k r (l.setIfInBounds i true)
  | (false, i) :: r, l => (Region.ready .any ops l == [i]) && schedKB ops k r (l.setIfInBounds i true)
def AnyK (P : Program) (ops : Array Oper) (Q : Exit → Act → World → Prop) (S : World → Prop) (k : Nat) : Nat → Array Bool → Act → World → Prop
  | 0, l, a, w => Region.ready .any ops l = [] ∧ Q .normal a w
  | n + 1, l, a, w => (Region.ready .any ops l = [] → Q .normal a w) ∧ ∀ i ∈ Region.ready .any ops l, wpOp P ops Q i (fun a' w' => (i ≠ k → S w') ∧ AnyK P ops Q S k n (l.setIfInBounds i true) a' w') a w
section
variable {P : Program} {ops : Array Oper} {Q : Exit → Act → World → Prop} {S : World → Prop} {k : Nat}
theorem AnyK.any : ∀ (n : Nat) (l : Array Bool) (a : Act) (w : World), AnyK P ops Q S k n l a w → wpAny P .any ops Q n l a w
  | 0, _, _, _, h => h
  | n + 1, _, _, _, h => ⟨h.1, fun i hi => wpOp_mono (fun a' w' h' => AnyK.any n _ a' w' h'.2) (h.2 i hi)⟩
theorem AnyK.nil {l : Array Bool} {a : Act} {w : World} (hr : Region.ready .any ops l = []) (h : Q .normal a w) : ∀ n, AnyK P ops Q S k n l a w
  | 0 => ⟨hr, h⟩
  | _ + 1 => ⟨fun _ => h, by rw [hr]; simp⟩
theorem AnyK.take {i : Nat} {oi : Oper} {v : Value} (hi : ops[i]? = some oi) (hsel : ∀ (j : Nat) (o : Oper) cs b, ops[j]? = some o → o.op ≠ .select cs b) (hik : i ≠ k) (hk : waitsB ops k i = true)
    (hQ : ∀ c a w, Q (.panic c) (a.put oi.dst v) w → Q (.panic c) a w) : ∀ (n : Nat) (l : Array Bool) (a : Act) (w : World), Region.free .any ops l i = true → i ∈ Region.ready .any ops l → YieldsIf P ops S oi v a → S w →
      AnyK P ops Q S k n (l.setIfInBounds i true) (a.put oi.dst v) w → AnyK P ops Q S k (n + 1) l a w := by
  intro n
  induction n with
  | zero =>
    intro l a w _ hr hy hS H
    refine ⟨fun h => (by rw [h] at hr; cases hr), fun j hj => ?_⟩
    by_cases e : j = i
    · subst e; exact hy.wpOp hi hS ⟨fun _ => hS, H⟩
    · have := ready_mono hj e
      rw [H.1] at this
      cases this
  | succ n ih =>
    intro l a w hfree hr hy hS H
    refine ⟨fun h => (by rw [h] at hr; cases hr), fun j hj => ?_⟩
    by_cases e : j = i
    · subst e; exact hy.wpOp hi hS ⟨fun _ => hS, H⟩
    have h1 := H.2 j (ready_mono hj e)
    obtain ⟨hjun, oj, hoj, hall⟩ := mem_ready.1 hj
    have hun : l.getD i true = false := (mem_ready.1 hr).1
    have hnot : ∀ e ∈ oj.after, Region.binds .any e = true → e.on ≠ i := fun e he hb heq => by
      have h2 := hall e he hb
      rw [heq, Array.getD_eq_getD_getElem?] at h2
      rw [Array.getD_eq_getD_getElem?] at hun
      rcases Nat.lt_or_ge i l.size with h' | h'
      · simp [h'] at hun h2; rw [hun] at h2; cases h2
      · simp [Array.getElem?_eq_none h'] at hun
    have hjk : j ≠ k := by
      rintro rfl
      unfold waitsB at hk
      rw [hoj] at hk
      obtain ⟨e, he, hb⟩ := Array.any_eq_true'.1 hk
      simp only [Bool.and_eq_true, beq_iff_eq] at hb
      exact hnot e he hb.1 hb.2
    have hap : oi.apart ops oj = true := Region.free_spec hi hfree j oj hoj e hjun hnot
    have h2 := wpOp_putIf hoj hap (fun cs b => hsel i oi cs b hi) (fun cs b => hsel j oj cs b hoj) hQ hy h1
    have hfree' : Region.free .any ops (l.setIfInBounds j true) i = true := by
      unfold Region.free at hfree ⊢
      rw [hi] at hfree ⊢
      dsimp only at hfree ⊢
      rw [List.all_eq_true] at hfree ⊢
      intro m hm
      have := hfree m hm
      by_cases hjm : j = m
      · subst hjm
        simp only [Bool.or_eq_true] at this ⊢
        rcases this with (h | h) | h
        · exact .inl (.inl h)
        · rw [hjun] at h; cases h
        · exact .inr h
      · rw [getD_set_ne true hjm]; exact this
    refine wpOp_mono (fun a' w' h3 => ⟨fun _ => h3.2.1 hjk, ih (l.setIfInBounds j true) a' w' hfree' (ready_mono hr (Ne.symm e)) h3.1 (h3.2.1 hjk) ?_⟩) h2
    rw [Array.setIfInBounds_comm _ _ e]
    exact h3.2.2
end
theorem schedK_sound {P : Program} {ops : Array Oper} {S : World → Prop} {Q : Act → World → Prop} {k : Nat} (hs : Region.noSelect ops = true) : ∀ (s : List (Bool × Nat)) (n : Nat) (l : Array Bool) (a : Act) (w : World), s.length + 1 ≤ n → schedKB ops k s l = true → S w →
    zao P ops S (fun a w => ∃ o, ops[k]? = some o ∧ WL P ops (OneQ Q) [o] a w) s a w → AnyK P ops (OneQ Q) S k n l a w
  | [], 0, l, a, w, hn, _, _, _ => by simp at hn
  | [], n + 1, l, a, w, _, hB, _, h => by
    simp only [schedKB, Bool.and_eq_true, beq_iff_eq, List.isEmpty_iff] at hB
    obtain ⟨o, ho, h⟩ := h
    refine ⟨fun h0 => (by rw [hB.1] at h0; cases h0), fun j hj => ?_⟩
    rw [hB.1] at hj
    obtain rfl : j = k := by simpa using hj
    exact wpOp_mono (fun a' w' hq => ⟨fun e => absurd rfl e, AnyK.nil hB.2 hq n⟩) (wpOp_of_one ho h)
  | (f, i) :: r, 0, l, a, w, hn, _, _, _ => by simp at hn
  | (f, i) :: r, n + 1, l, a, w, hn, hB, hS, h => by
    have hn' : r.length + 1 ≤ n := by simpa using hn
    obtain ⟨o, ho, h⟩ := h
    cases f with
    | true =>
      simp only [schedKB, Bool.and_eq_true] at hB
      rw [if_pos rfl] at h
      obtain ⟨v, hy, h⟩ := h
      exact AnyK.take ho (Region.noSelect_spec hs) (by simpa using hB.1.1.1.1) hB.1.1.1.2 (fun _ _ _ h => h) n l a w hB.1.1.2 (by simpa using hB.1.2) hy hS (schedK_sound hs r n _ _ _ hn' hB.2 hS h)
    | false =>
      simp only [schedKB, Bool.and_eq_true, beq_iff_eq] at hB
      rw [if_neg (by simp)] at h
      refine ⟨fun h0 => (by rw [hB.1] at h0; cases h0), fun j hj => ?_⟩
      rw [hB.1] at hj
      obtain rfl : j = i := by simpa using hj
      refine wpOp_mono ?_ (wpOp_of_one ho h)
      rintro a' w' ⟨h1, h2⟩
      exact ⟨fun _ => h1, schedK_sound hs r n _ _ _ hn' hB.2 h1 h2⟩
theorem wp_schedK {P : Program} {id : Nat} {Q : Exit → Act → World → Prop} {a : Act} {w : World} {l : List Oper} (S : World → Prop) (s : List (Bool × Nat)) (k : Nat) (hm : P.follows .mixedOrders = true)
    (hs : Region.noSelect l.toArray = true) (hB : (decide (s.length + 1 ≤ l.length) && schedKB l.toArray k s (Array.replicate l.length false)) = true) (hS : S w.drew)
    (h : zao P l.toArray S (fun a w => ∃ o, l.toArray[k]? = some o ∧ WL P l.toArray (OneQ (Q .normal)) [o] a w) s a w.drew) : (Code.region id l.toArray true).wp P Q a w := by
  simp only [Bool.and_eq_true, decide_eq_true_eq] at hB
  refine wp_mono (wp_region_any (Q := OneQ (Q .normal)) hm ?_) ?_
  · have := schedK_sound hs s l.length _ a _ hB.1 hB.2 hS h
    simpa using AnyK.any _ _ _ _ this
  · intro e a' w' hq
    cases e <;> first | exact hq | exact hq.elim
section
variable {P : Program} {ops : Array Oper} {w0 : World} {Q : Act → World → Prop} {a : Act} {w : World} {r : List (Bool × Nat)} {d : Option Nat} {i : Nat} {ty : TypeId} {pos : String} {af : Array Edge} {X : Nat → Prop}
theorem ws_pY {o : Op} (hi : ops[i]? = some ⟨d, o, ty, pos, af, none⟩) (hx : RdX X a.eval o) (hd : dyn w0 a.eval o = true) (hc : opB P o = true) (h : zao P ops (fun w' => Chg X w0 w') Q r (a.put d (pv P w0 a.eval o)) w) :
    zao P ops (fun w' => Chg X w0 w') Q ((true, i) :: r) a w := ws_float _ hi (fun w' c => wf_run hx.out hd hc w' c) h
theorem ws_aggY {x : Operand} {t b o n : Nat} {l : List Value} {T : TypeId} (ht : aggB P t = true) (hs : sizeB P t n = true) (hi : ops[i]? = some ⟨d, .load t x, ty, pos, af, none⟩) (hx : a.eval x = .pointer (some ⟨b, o, none⟩))
    (hb : Blk w0 b l T) (hX : ¬ X b) (hn : o + n ≤ l.length) (h : zao P ops (fun w' => Chg X w0 w') Q r (a.put d (zax ((l.drop o).take n))) w) : zao P ops (fun w' => Chg X w0 w') Q ((true, i) :: r) a w :=
  ws_loadAgg ht hs hi hx (fun _ c => hb.chg c hX) hn h
end
theorem wl_lit1A {ops : Array Oper} {Q : Exit → Act → World → Prop} {a : Act} {w : World} {rest : List Oper} {d : Option Nat} {ty : TypeId} {pos : String} {af : Array Edge} {t e sz : Nat} {z : Value} {x : Operand} {cs : List Value} (ht : Tryd.prog.underlying t = some (.slice e)) (hs : sizeB Tryd.prog e sz = true) (hz : zeroB Tryd.prog e z) (h0 : 0 < sz) (h1 : sz ≤ 16777216)
    (hx : a.eval x = zax cs) (hcs : cs.length = sz) (h : ∀ w', Chg (fun _ => False) w w' → Blk w' w.heap.size cs e → w'.heap.size = w.heap.size + 1 → WL Tryd.prog ops Q rest (a.put d (.slice (some ⟨w.heap.size, 0, none⟩) 1 1)) w') :
    WL Tryd.prog ops Q (⟨d, .buildSlice t 1 #[(0, x)], ty, pos, af, none⟩ :: rest) a w := by
  have hr := run_buildSlice (P := Tryd.prog) (w := w) ht hs hz [zax cs] (by intro v hv; simp only [List.mem_singleton] at hv; subst hv; simpa [Value.cells, zax] using hcs) (by simpa using h1) h0
  simp only [List.length_cons, List.length_nil, Nat.zero_add, List.zipIdx_cons, List.zipIdx_nil, List.map_cons, List.map_nil, List.flatMap_cons, List.flatMap_nil, List.append_nil] at hr
  refine zaK rfl (v := .slice (some ⟨w.heap.size, 0, none⟩) 1 1) (w' := w.alloc (.cells cs.toArray e)) ?_ (h _ (Chg.alloc _ _ _) (Blk.new w cs e) ?_)
  · simp only [execOp, List.map_toArray, List.map_cons, List.map_nil, hx, Sem.run_bind]
    rw [hr]
    rfl
  · show (w.heap.push _).size = _
    rw [Array.size_push]
end Go.Proofs.YtojpodeljpfgaaaDoor
namespace Go.Proofs.YtojpodeljpfgaaaDoor
set_option linter.all false
open Go.RowKit
set_option maxRecDepth 10000
set_option maxHeartbeats 4000000
def khOf (h : Hd) : Kh := ⟨h.key, octO h.val⟩
def krOf (x : Rc) : Kr := ⟨x.len, x.attr, 0, x.delta, x.off, octO x.key, octO x.val, x.hs.map khOf⟩
theorem obL_octO (x : Oct) : obL (octO x) ≤ x.data.length := by
  unfold obL octO
  cases x.null with
  | true => exact Nat.zero_le _
  | false => exact Nat.le_refl _
theorem khB_of (h : Hd) : khB (khOf h) = hdB h := by unfold khB khOf hdB; rw [obB_octO]
theorem krB_of (x : Rc) : krB (krOf x) = zaN x.len ++ zaJ x := by
  have e : krDelta (krOf x) = x.delta := by
    unfold krDelta krOf
    dsimp only
    by_cases h : x.delta = 0
    · rw [if_pos h, h]
    · rw [if_neg h]
  unfold krB krPre zaJ preB
  rw [e]
  have e2 : (krOf x).hs.flatMap khB = x.hs.flatMap hdB := by
    show (x.hs.map khOf).flatMap khB = _
    rw [List.flatMap_map]
    congr 1
    funext h
    exact khB_of h
  have e3 : (krOf x).hs.length = x.hs.length := List.length_map ..
  rw [e2, e3]
  show zaN x.len ++ be 1 x.attr ++ zaN x.delta ++ zaN x.off ++ obB (octO x.key) ++ obB (octO x.val) ++ zaN x.hs.length ++ x.hs.flatMap hdB = _
  rw [obB_octO, obB_octO]
  simp only [List.append_assoc]
theorem krL_of {x : Rc} (h : RcL x) (h1000 : x.hs.length ≤ 1000) : KrL (krOf x) :=
  ⟨Nat.le_trans (obL_octO _) h.key, Nat.le_trans (obL_octO _) h.val, by show (x.hs.map khOf).length ≤ 1000; rw [List.length_map]; exact h1000, fun k hk => by
    obtain ⟨y, hy, rfl⟩ := List.mem_map.1 hk
    exact ⟨(h.hk y hy).1, Nat.le_trans (obL_octO _) (h.hk y hy).2⟩⟩
theorem outNB.sl {w : World} {G : Nat → Prop} {o : Option Bs} {v : Value} (h : outNB w G o v) : ∃ oa n c, v = .slice oa n c := by
  unfold outNB at h
  cases o with
  | none => exact ⟨_, _, _, h⟩
  | some l => obtain ⟨b, cap, rfl, _⟩ := h; exact ⟨_, _, _, rfl⟩
theorem outNB.mono {w : World} {G G' : Nat → Prop} {o : Option Bs} {v : Value} (h : outNB w G o v) (hG : ∀ k, k < w.heap.size → G k → G' k) : outNB w G' o v := h.stay (Stay.sub hG)
theorem outNB.chg {w w' : World} {G X : Nat → Prop} {o : Option Bs} {v : Value} (h : outNB w G o v) (c : Chg X w w') (hX : ∀ k, G k → k < w.heap.size → ¬ X k) : outNB w' G o v := h.stay (Stay.of c fun k hk hl => hX k hk hl)
theorem ownsRow_lt {e : TypeId} {sz : Nat} {w : World} {base : Nat} {v : Value} {n k : Nat} {xs : List Value} (h : w.ownsRow base e sz v n xs) (hk : v.ownBlock = some k) : base ≤ k ∧ k < w.heap.size := by
  rcases h.2 with ⟨rfl, _⟩ | ⟨g, cap, cur, rfl, hb, hg, _⟩
  · simp [Value.ownBlock] at hk
  · simp [Value.ownBlock] at hk
    subst hk
    exact ⟨hb, (Array.getElem?_eq_some_iff.1 hg).1⟩
theorem makeRecord_c {w : World} {G G0 : Nat → Prop} {x : Rc} {vs : List Value} {oa : Option Addr} {l : Bs} {cap : Nat} (hl : zam w G0 oa l) (h : RcC w G x vs) (hL : RcL x) (h1000 : x.hs.length ≤ 1000) (hlim : l.length ≤ 1073741824) :
    zan Tryd.prog 7 #[.slice oa l.length cap, zax vs] w (NewB w (l ++ (zaN x.len ++ zaJ x))) := by
  have hLk := hL.key
  have hLv := hL.val
  refine zaj Tryd.func7 rfl rfl Tryd.ntmps7 (by simp) ?_
  intro a hN hD hargs
  have h0 : get a 0 = .slice oa l.length cap := hargs 0 _ rfl
  have h1 : get a 1 = zax vs := hargs 1 _ rfl
  obtain ⟨k1, k2, v1, v2, vh, hvs, ⟨p1, p2⟩, ⟨p3, p4⟩, p5, p6⟩ := h
  refine wp_seq_k fun K hK => ?_; refine zac ?_
  refine zaQ (l := vs) (by simp [evb, kb, hN, h1, sdb]) fun w1 hc1 hb1 hs1 => ?_
  (repeat ((with_reducible refine zah ?_ ?_ ?_); (· simp [evb, pvb, rnb, kb, hN, dyb, sdb] <;> omega); (· kernel_rfl); try simp only [evb, pvb, rnb, kb, hN, seval])); refine zaa ?_; refine hK _ _ ?_; clear hK K
  have l0 := hb1.ld (i := 0) (v := .int .i32 x.len) (by rw [hvs]; rfl)
  have l1 := hb1.ld (i := 1) (v := .int .i8 x.attr) (by rw [hvs]; rfl)
  have l2 := hb1.ld (i := 2) (v := .int .i64 x.delta) (by rw [hvs]; rfl)
  have l3 := hb1.ld (i := 3) (v := .int .i32 x.off) (by rw [hvs]; rfl)
  refine wp_seq_k fun K hK => ?_
  refine wp_sched (fun w' => Chg (fun _ => False) w1 w') [(true, 0), (true, 1), (true, 2), (true, 3), (true, 4), (true, 5), (true, 6), (true, 7), (true, 8), (true, 9), (true, 11), (true, 12), (false, 10), (false, 13), (false, 14), (false, 15), (true, 16)] zaz (by kernel_rfl) (by kernel_rfl) (Chg.drew _ _) ?_
  (repeat (first | (refine ws_pX rfl ?_ ?_ ?_; (· simp [evb, pvb, rnb, kb, hN, seval, l0, l1, l2, l3, ofR, dyb, sdb] <;> omega); (· kernel_rfl); try simp only [evb, pvb, rnb, kb, hN, seval, l0, l1, l2, l3, ofR]) | (refine ws_pgX rfl rfl rfl ?_ ?_ ?_ ?_; (· simp [evb, pvb, rnb, kb, hN, seval, l0, l1, l2, l3, ofR]; done); (· simp [evb, pvb, rnb, kb, hN, seval, l0, l1, l2, l3, ofR, dyb, sdb] <;> omega); (· kernel_rfl); try simp only [evb, pvb, rnb, kb, hN, seval, l0, l1, l2, l3, ofR]) | (refine ws_gnoX rfl rfl rfl ?_ ?_; (· simp [evb, pvb, rnb, kb, hN, seval, l0, l1, l2, l3, ofR]; done); try simp only [evb, pvb, rnb, kb, hN, seval, l0, l1, l2, l3, ofR])))
  refine ws_aggX (b := w.heap.size) (o := 4) (n := 2) (by kernel_rfl) (by kernel_rfl) rfl (by simp only [evb, pvb, rnb, kb, hN, seval]) hb1 (by rw [hvs]; simp) ?_
  rw [show (vs.drop 4).take 2 = [.bool x.key.null, .slice k1 x.key.data.length k2] by rw [hvs]; rfl]
  (repeat (first | (refine ws_pX rfl ?_ ?_ ?_; (· simp [evb, pvb, rnb, kb, hN, seval, ofR, dyb, sdb] <;> omega); (· kernel_rfl); try simp only [evb, pvb, rnb, kb, hN, seval, ofR]) | (refine ws_pgX rfl rfl rfl ?_ ?_ ?_ ?_; (· simp [evb, pvb, rnb, kb, hN, seval, ofR]; done); (· simp [evb, pvb, rnb, kb, hN, seval, ofR, dyb, sdb] <;> omega); (· kernel_rfl); try simp only [evb, pvb, rnb, kb, hN, seval, ofR]) | (refine ws_gnoX rfl rfl rfl ?_ ?_; (· simp [evb, pvb, rnb, kb, hN, seval, ofR]; done); try simp only [evb, pvb, rnb, kb, hN, seval, ofR])))
  refine ws_aggX (b := w.heap.size) (o := 6) (n := 2) (by kernel_rfl) (by kernel_rfl) rfl (by simp only [evb, pvb, rnb, kb, hN, seval]) hb1 (by rw [hvs]; simp) ?_
  rw [show (vs.drop 6).take 2 = [.bool x.val.null, .slice v1 x.val.data.length v2] by rw [hvs]; rfl]
  have hcd : Chg (fun _ => False) w w1.drew := hc1.trans (Chg.drew _ _) fun _ _ h => h
  have hsd : w1.drew.heap.size = w.heap.size + 1 := hs1
  refine ws_call (fun args w => Tryd.call17 args w) rfl (by simp only [List.map_toArray, List.map_cons, List.map_nil, evb, kb, hN, seval]; exact null_c (x := x.key) ⟨k1, k2, rfl, p1, p2.chg hcd fun _ _ _ h => h⟩ (by unfold LIM; omega)) ?_
  rintro vk w2 ⟨qk, hc2⟩
  have hc12 : Chg (fun _ => False) w1 w2 := (Chg.drew _ _).trans hc2 fun _ _ h => h
  refine ⟨hc12, ?_⟩
  have hc02 := hc1.trans hc12 fun _ _ h => h
  refine ws_call (fun args w => Tryd.call17 args w) rfl (by simp only [List.map_toArray, List.map_cons, List.map_nil, evb, kb, hN, seval]; exact null_c (x := x.val) ⟨v1, v2, rfl, p3, p4.chg hc02 fun _ _ _ h => h⟩ (by unfold LIM; omega)) ?_
  rintro vv w3 ⟨qv, hc3⟩
  have hc13 := hc12.trans hc3 fun _ _ h => h
  refine ⟨hc13, ?_⟩
  have hc03 := hc1.trans hc13 fun _ _ h => h
  have qk3 : outNB w3 (fun g => w.heap.size < g ∧ g < w3.heap.size) (octO x.key) vk := (qk.chg hc3 fun _ _ _ h => h).mono fun k hk hg => ⟨by change w1.drew.heap.size ≤ k at hg; omega, hk⟩
  have hs12 := hc12.size
  have hs13 := hc13.size
  have qv3 : outNB w3 (fun g => w.heap.size < g ∧ g < w3.heap.size) (octO x.val) vv := qv.mono fun k hk hg => ⟨by change w2.heap.size ≤ k at hg; omega, hk⟩
  obtain ⟨ka, kn, kc, hvk⟩ := qk3.sl
  obtain ⟨va, vn, vc, hvv⟩ := qv3.sl
  refine ws_step rfl fun K1 hK1 => ?_
  refine wl_build (l := krV ⟨x.len, x.attr, 0, x.delta, x.off, none, none, []⟩ (.slice ka kn kc) (.slice va vn vc) (.slice none 0 0)) (by rw [hvk, hvv]; simp only [List.map_toArray, List.map_cons, List.map_nil, evb, kb, hN, seval]; kernel_rfl) ?_
  refine zaa (hK1 _ _ hc13 ?_)
  clear hK1 K1
  refine ws_step rfl fun K1 hK1 => ?_
  refine zaQ (l := krV ⟨x.len, x.attr, 0, x.delta, x.off, none, none, []⟩ (.slice ka kn kc) (.slice va vn vc) (.slice none 0 0)) (by simp only [evb, pvb, rnb, kb, hN, seval]) fun w4 hc4 hb4 hs4 => ?_
  have hc14 := hc13.trans hc4 fun _ _ h => h
  refine zaa (hK1 _ _ hc14 ?_)
  clear hK1 K1
  (repeat (first | (refine ws_pX rfl ?_ ?_ ?_; (· simp [evb, pvb, rnb, kb, hN, seval, dyb, sdb] <;> omega); (· kernel_rfl); try simp only [evb, pvb, rnb, kb, hN, seval]) | (refine ws_pgX rfl rfl rfl ?_ ?_ ?_ ?_; (· simp [evb, pvb, rnb, kb, hN, seval]; done); (· simp [evb, pvb, rnb, kb, hN, seval, dyb, sdb] <;> omega); (· kernel_rfl); try simp only [evb, pvb, rnb, kb, hN, seval]) | (refine ws_gnoX rfl rfl rfl ?_ ?_; (· simp [evb, pvb, rnb, kb, hN, seval]; done); try simp only [evb, pvb, rnb, kb, hN, seval])))
  refine ws_nil ?_
  refine hK _ _ ?_
  clear hK K
  rw [← hvk, ← hvv] at hb4
  have hc04 := hc1.trans hc14 fun _ _ h => h
  generalize hp : w3.heap.size = p at hb4 qk3 qv3 hs4
  have hkv : krV ⟨x.len, x.attr, 0, x.delta, x.off, none, none, []⟩ vk vv (.slice none 0 0) = krV (krOf x) vk vv (.slice none 0 0) := rfl
  rw [hkv] at hb4
  have qk4 := qk3.chg hc4 fun _ _ _ h => h
  have qv4 := qv3.chg hc4 fun _ _ _ h => h
  have hb14 := hb1.chg hc14 fun h => h
  obtain ⟨oh, ch, hvh, hch⟩ := p5.sl
  have l6 := hb14.ld (i := 8) (v := .slice oh x.hs.length ch) (by rw [hvs, hvh]; rfl)
  refine wp_seq_k fun K hK => ?_; refine wp_seq_k fun K1 hK1 => ?_; refine zac ?_; (repeat ((with_reducible refine zah ?_ ?_ ?_); (· simp [evb, pvb, rnb, kb, hN, ofR, l6, dyb, sdb] <;> omega); (· kernel_rfl); try simp only [evb, pvb, rnb, kb, hN, seval, ofR, l6])); refine zaa ?_; refine hK1 _ _ ?_; try clear hK1 K1
  have hpw : w.heap.size < p := by omega
  refine wp_range (n := x.hs.length) (fun i a' w' => ∃ (u : Value) (Gs : Nat → Prop), a'.tmps.size = 51 ∧ a'.defers = [] ∧ get a' 25 = .slice oh x.hs.length ch ∧ get a' 5 = .pointer (some ⟨p, 0, none⟩) ∧ get a' 0 = .slice oa l.length cap ∧
      Blk w' p (krV (krOf x) vk vv u) 53 ∧ GrI 2 KhC 57 w' (p + 1) Gs ((x.hs.take i).map khOf) u ∧ (∀ k, Gs k → p < k ∧ k < w'.heap.size ∧ u.ownBlock ≠ some k) ∧ Chg (fun g => p ≤ g) w4 w') 51 (by omega)
    (by simp only [evb, kb, hN, seval]; try rfl) (by simp only [evb, kb, hN, seval]) ⟨.slice none 0 0, fun _ => False, by simp only [zaf, hN], by simp only [zab, hD], by simp only [evb, pvb, rnb, kb, hN, seval], by simp only [evb, pvb, rnb, kb, hN, seval], by simp only [evb, pvb, rnb, kb, hN, seval, h0], hb4, GrI.nil _ _ _ _, fun _ h => h.elim, Chg.refl _ _⟩ ?_ ?_ (by decide) ?_ ?_
  · rintro i a w ⟨_, _, h, _⟩; exact h
  · rintro i a w t v ht ⟨u, Gs, k1, k2, k3, k4, k5, k6⟩
    rcases ht with rfl | rfl | rfl <;> exact ⟨u, Gs, by rw [zaf]; exact k1, by rw [zab]; exact k2, by rw [zaq (by decide)]; exact k3, by rw [zaq (by decide)]; exact k4, by rw [zaq (by decide)]; exact k5, k6⟩
  · clear hN hD h0 h1 hargs
    rintro i a1 w5 hi ⟨u, Gs, hN, hD, g25, g5, g0, hbp, hgr, hGs, hc5⟩ g26 g27
    have hx : x.hs[i]? = some x.hs[i] := by simp [hi]
    generalize x.hs[i] = y at hx
    obtain ⟨oa', cap', e1, _, hrow⟩ := p5
    rw [hvh] at e1
    obtain ⟨rfl, rfl⟩ : oh = oa' ∧ ch = cap' := by simpa using e1
    rcases hrow with e | ⟨b, o, cs, T, rfl, hGb, hb, htl⟩
    · rw [e] at hi; simp at hi
    obtain ⟨hcx, hlx⟩ := htl.get one_hd hx
    have hc05 : Chg (fun _ => False) w w5 := hc04.trans hc5 fun n hn hk => by omega
    have hb2 : Rbk w5 b cs T := hb.chg hc05 (fun h => h)
    rw [List.length_drop] at hlx
    rw [List.drop_drop] at hcx
    have hlen := one_hd.len hcx
    have hcl := one_hd.cell hcx
    have hyL := hL.hk y (List.mem_of_getElem? hx)
    have hs5 := hc5.size
    refine wp_seq_k fun K3 hK3 => ?_; refine zac ?_
    refine wl_indexAddr (b := b) (o := o) (k := .i64) (i := i) (n := 3) (len := x.hs.length) (cap := ch) (by kernel_rfl) (by simp [evb, kb, hN, g25, sdb]) (by simp [evb, kb, hN, g27, sdb]) hi ?_
    refine wl_loadAgg_r (b := b) (o := o + i * 3) (n := 3) (by kernel_rfl) (by kernel_rfl) (by simp [evb, kb, hN, sdb]) hb2 (by omega) ?_
    generalize (cs.drop (o + i * 3)).take 3 = vx at hcx hlen hcl
    refine zaH (z := zax [.string ⟨#[]⟩, .bool false, .slice none 0 0]) (fun w => Tryd.zeroValue55 w) fun w6 hc6 hb6 hs6 => ?_
    refine zaA (b := w5.heap.size) (n := 3) (l' := vx) (by kernel_rfl) (by simp [evb, kb, hN, sdb]) (by simp [evb, kb, hN, sdb]; rfl) hb6 hlen hcl rfl fun w7 hb7 hc7 => ?_
    refine zaa ?_; refine hK3 _ _ ?_; try clear hK3 K3
    have hc57 : Chg (fun _ => False) w5 w7 := hc6.trans hc7 fun n hn h => by omega
    have hc07 := hc05.trans hc57 fun _ _ h => h
    have hs7 := hc7.size
    have hcx7 := one_hd.stay (Stay.of hc07 fun _ _ _ h => h) hcx
    obtain ⟨vo, hvx, o4, c4, rfl, x1, x2⟩ := hcx7
    have hbp7 := hbp.chg hc57 fun h => h
    have hgr7 : GrI 2 KhC 57 w7 (p + 1) Gs ((x.hs.take i).map khOf) u := hgr.chg one_kh hc57 (fun _ _ h => h) fun _ _ _ h => h
    obtain ⟨uo, un, uc, hu, hul⟩ : ∃ oa n c, u = .slice oa n c ∧ ∀ k, u.ownBlock = some k → p + 1 ≤ k ∧ k < w7.heap.size := by
      obtain ⟨cs, r1, r2⟩ := hgr7.row
      obtain ⟨oa, c, e, _, _⟩ := ownsRow_slice r1
      exact ⟨_, _, _, e, fun k hk => ownsRow_lt r1 hk⟩
    have lp := hbp7.ld (i := 7) (v := u) rfl
    have l0' := hb7.ld (i := 0) (v := .string ⟨y.key.toArray⟩) (by rw [hvx]; rfl)
    have n1 : ¬ (u.ownBlock = some p) := fun e => by have := (hul p e).1; omega
    have n2 : ¬ (u.ownBlock = some w5.heap.size) := fun e => by
      have h1 := hgr.row
      obtain ⟨cs, r1, _⟩ := h1
      have := (ownsRow_lt r1 e).2
      omega
    rw [hu] at lp
    refine wp_schedK (fun w' => Chg (fun k => u.ownBlock = some k) w7 w') [(true, 0), (true, 1), (true, 2), (true, 3), (true, 4), (true, 5), (true, 6), (true, 7), (true, 8), (false, 9), (false, 10), (false, 11), (false, 12), (false, 13), (true, 14)] 15 zaz (by kernel_rfl) (by kernel_rfl) (Chg.drew _ _) ?_
    (repeat (refine ws_pY rfl ?_ ?_ ?_ ?_; (· (refine ⟨?_⟩; simp [rxb]; done)); (· simp [evb, pvb, rnb, kb, hN, seval, g5, ofKR, ofO, dyb, sdb] <;> omega); (· kernel_rfl); try simp only [evb, pvb, rnb, kb, hN, seval, g5, ofKR, ofO]))
    refine ws_load (b := p) (o := 7) (v := u) (by kernel_rfl) rfl (by simp only [evb, pvb, rnb, kb, hN, seval]) (fun _ c => hbp7.chg c n1) rfl ?_
    (repeat (refine ws_pY rfl ?_ ?_ ?_ ?_; (· (refine ⟨?_⟩; simp [rxb]; done)); (· simp [evb, pvb, rnb, kb, hN, seval, g5, ofKR, ofO, dyb, sdb] <;> omega); (· kernel_rfl); try simp only [evb, pvb, rnb, kb, hN, seval, g5, ofKR, ofO]))
    refine ws_load (b := w5.heap.size) (o := 0) (v := .string ⟨y.key.toArray⟩) (by kernel_rfl) rfl (by simp only [evb, pvb, rnb, kb, hN, seval]) (fun _ c => hb7.chg c n2) (by rw [hvx]; rfl) ?_
    (repeat (refine ws_pY rfl ?_ ?_ ?_ ?_; (· (refine ⟨?_⟩; simp [rxb]; done)); (· simp [evb, pvb, rnb, kb, hN, seval, ofO, dyb, sdb] <;> omega); (· kernel_rfl); try simp only [evb, pvb, rnb, kb, hN, seval, ofO]))
    refine ws_aggY (b := w5.heap.size) (o := 1) (n := 2) (by kernel_rfl) (by kernel_rfl) rfl (by simp only [evb, pvb, rnb, kb, hN, seval]) hb7 n2 (by rw [hvx]; simp) ?_
    rw [show (vx.drop 1).take 2 = [.bool y.val.null, .slice o4 y.val.data.length c4] by rw [hvx]; rfl]
    have hcd7 : Chg (fun _ => False) w7 w7.drew := Chg.drew _ _
    refine ws_call (fun args w => Tryd.call17 args w) rfl (by simp only [List.map_toArray, List.map_cons, List.map_nil, evb, kb, hN, seval]; exact null_c (x := y.val) ⟨o4, c4, rfl, x1, x2.chg hcd7 fun _ _ _ h => h⟩ (by unfold LIM; omega)) ?_
    rintro vy w8 ⟨qy, hc8⟩
    have hc78 : Chg (fun _ => False) w7 w8 := hcd7.trans hc8 fun _ _ h => h
    refine ⟨hc78.mono fun _ _ h => h.elim, ?_⟩
    have hs8 := hc78.size
    have qy8 : outNB w8 (fun g => w7.heap.size ≤ g ∧ g < w8.heap.size) (octO y.val) vy := qy.mono fun k hk hg => ⟨hg, hk⟩
    obtain ⟨ya, yn, yc, hvy⟩ := qy8.sl
    refine ws_step rfl fun K1 hK1 => ?_
    refine wl_build (l := [.string ⟨y.key.toArray⟩, .slice ya yn yc]) (by rw [hvy]; simp only [List.map_toArray, List.map_cons, List.map_nil, evb, kb, hN, seval]; kernel_rfl) ?_
    refine zaa (hK1 _ _ (hc78.mono fun _ _ h => h.elim) ?_)
    clear hK1 K1
    rw [← hvy]
    refine ws_step rfl fun K1 hK1 => ?_
    refine wl_lit1A (e := 57) (sz := 2) (z := zax [.string ⟨#[]⟩, .slice none 0 0]) (cs := [.string ⟨y.key.toArray⟩, vy]) (by kernel_rfl) (by kernel_rfl) (fun w => Tryd.zeroValue57 w) (by decide) (by decide) (by simp only [evb, pvb, rnb, kb, hN, seval]) rfl fun w9 hc9 hb9 hs9 => ?_
    have hc79 := hc78.trans hc9 fun _ _ h => h
    refine zaa (hK1 _ _ (hc79.mono fun _ _ h => h.elim) ?_)
    clear hK1 K1
    refine ws_step rfl fun K1 hK1 => ?_
    have hu9 : ∀ k, u.ownBlock = some k → p + 1 ≤ k ∧ k < w7.heap.size := hul
    have hgr9 : GrI 2 KhC 57 w9 (p + 1) (fun g => Gs g ∨ (w7.heap.size ≤ g ∧ g < w8.heap.size)) ((x.hs.take i).map khOf) u := (hgr7.chg one_kh hc79 (fun _ _ h => h) fun _ _ _ h => h).mono one_kh fun k _ hg => .inl hg
    refine wl_appLs one_kh (bytes := 40) (x1 := khOf y) (base := p + 1) (b := w8.heap.size) (c := 1) (by kernel_rfl) (by decide) (by simp only [evb, pvb, rnb, kb, hN, seval]) hgr9 (by simp only [evb, pvb, rnb, kb, hN, seval]) hb9 ⟨vy, rfl, (qy8.chg hc9 fun _ _ _ h => h).mono fun k _ hg => .inr hg⟩ (by rw [List.length_map, List.length_take]; omega) (fun k hg e => by
      rcases hg with hg | hg
      · exact (hGs k hg).2.2 e
      · have := (hul k e).2; omega) (by omega) ?_
    intro v10 w10 hgr10 hc10 hblk10
    have hc710 : Chg (fun k => u.ownBlock = some k) w7 w10 := (hc79.mono fun _ _ h => h.elim).trans hc10 fun _ _ h => h
    refine zaa (hK1 _ _ hc710 ?_)
    clear hK1 K1
    refine ws_step (o := ⟨some 44, .nilCheck (.tmp 31), _, _, _, none⟩) rfl fun K1 hK1 => ?_
    (repeat ((with_reducible refine zah ?_ ?_ ?_); (· simp [evb, pvb, rnb, kb, hN, g5, dyb, sdb] <;> omega); (· kernel_rfl); try simp only [evb, pvb, rnb, kb, hN, seval, g5]))
    refine zaa (hK1 _ _ hc710 ?_)
    clear hK1 K1
    (repeat (refine ws_pY rfl ?_ ?_ ?_ ?_; (· (refine ⟨?_⟩; simp [rxb]; done)); (· simp [evb, pvb, rnb, kb, hN, seval, ofKR, dyb, sdb] <;> omega); (· kernel_rfl); try simp only [evb, pvb, rnb, kb, hN, seval, ofKR]))
    refine ws_nil ⟨_, rfl, ?_⟩
    have hbp10 := hbp7.chg hc710 n1
    refine zap (b := p) (o := 7) (n := 1) (v := v10) (by kernel_rfl) (by simp only [evb, pvb, rnb, kb, hN, seval]) (by simp only [evb, pvb, rnb, kb, hN, seval]) hbp10 (by obtain ⟨cs, r1, _⟩ := hgr10.row; obtain ⟨_, _, e, _⟩ := ownsRow_slice r1; rw [e]; rfl) (by obtain ⟨cs, r1, _⟩ := hgr10.row; obtain ⟨_, _, e, _⟩ := ownsRow_slice r1; rw [e]; intro y hy; simp only [Value.cells, List.mem_singleton] at hy; subst hy; rfl) (by show 7 + 1 ≤ 8; omega) fun w11 hb11 hc11 => ?_
    refine zaa ?_
    have e11 : zaM (krV (krOf x) vk vv u) 7 v10.cells.toList = krV (krOf x) vk vv v10 := by obtain ⟨cs, r1, _⟩ := hgr10.row; obtain ⟨_, _, e, _⟩ := ownsRow_slice r1; rw [e]; rfl
    rw [e11] at hb11
    have hown10 : ∀ k, v10.ownBlock = some k → p + 1 ≤ k ∧ k < w10.heap.size := by obtain ⟨cs, r1, _⟩ := hgr10.row; exact fun k hk => ownsRow_lt r1 hk
    have hn10 : ¬ v10.ownBlock = some p := fun e => by have := (hown10 p e).1; omega
    have hs10 := hc710.size
    have hs11 := hc11.size
    have hs810 : w8.heap.size ≤ w10.heap.size := Nat.le_trans (by omega) hc10.size
    have hG10 : ∀ k, (Gs k ∨ (w7.heap.size ≤ k ∧ k < w8.heap.size)) → p < k ∧ k < w11.heap.size ∧ v10.ownBlock ≠ some k := by
      intro k hk
      have hb : p < k ∧ k < w8.heap.size ∧ u.ownBlock ≠ some k := by
        rcases hk with hk | hk
        · have := hGs k hk; exact ⟨this.1, by omega, this.2.2⟩
        · exact ⟨by omega, hk.2, fun e => by have := (hul k e).2; omega⟩
      refine ⟨hb.1, by omega, fun e => ?_⟩
      rcases hblk10 with h | ⟨j, h, hj⟩
      · rw [h] at e; exact hb.2.2 e
      · rw [h] at e; cases e; omega
    refine ⟨⟨v10, fun g => Gs g ∨ (w7.heap.size ≤ g ∧ g < w8.heap.size), by simp only [zaf, hN], by simp only [zab, hD], by simp only [evb, kb, hN, seval, g25], by simp only [evb, kb, hN, seval, g5], by simp only [evb, kb, hN, seval, g0], hb11, ?_, hG10, ?_⟩, by simp only [evb, kb, hN, seval, g26], by simp only [evb, kb, hN, seval, g27]⟩
    · have e : (x.hs.take (i + 1)).map khOf = (x.hs.take i).map khOf ++ [khOf y] := by
        rw [List.take_succ, hx, Option.toList_some, List.map_append]; rfl
      rw [e]
      exact hgr10.chg one_kh hc11 (fun k hk e => hn10 (e ▸ hk)) fun k hk _ e => by
        subst e
        have := (hG10 _ hk).1
        omega
    · refine hc5.trans (((hc57.mono fun _ _ h => h.elim).trans (hc710.mono fun k hk h => ?_) fun _ _ h => h).trans (hc11.mono fun k hk h => ?_) fun _ _ h => h) fun _ _ h => h
      · have := (hul k h).1; omega
      · omega
  · clear hN hD h0 h1 hargs
    rintro a1 w5 ⟨u, Gs, hN, hD, g25, g5, g0, hbp, hgr, hGs, hc5⟩
    refine hK _ _ ?_
    clear hK K
    rw [List.take_length] at hgr
    have hc05 : Chg (fun _ => False) w w5 := hc04.trans hc5 fun n hn hk => by omega
    have hkr : KrC w5 (fun g => g < w5.heap.size) (krOf x) (krV (krOf x) vk vv u) := ⟨vk, vv, u, rfl, (qk4.chg hc5 fun k hk _ h => by omega).mono fun k hk _ => hk, (qv4.chg hc5 fun k hk _ h => by omega).mono fun k hk _ => hk, (hgr.lss one_kh).stay one_kh (Stay.sub fun k hk _ => hk), p6.1, p6.2.1, by show (-2147483648 : Int) ≤ 0 ∧ (0 : Int) < 2147483648; omega, p6.2.2.1, p6.2.2.2⟩
    have hs5 := hc5.size
    refine wp_seq_k fun K hK => ?_; refine zac ?_; (repeat ((with_reducible refine zah ?_ ?_ ?_); (· simp [evb, pvb, rnb, kb, hN, g5, g0, dyb, sdb] <;> omega); (· kernel_rfl); try simp only [evb, pvb, rnb, kb, hN, seval, g5, g0]))
    refine zak (fun args w => Tryd.call19 args w) (by simp only [List.map_toArray, List.map_cons, List.map_nil, evb, kb, hN, seval, g0]; exact own_c (hl.chg hc05 fun _ _ _ h => h) (by unfold LIM; omega)) ?_
    rintro v6 w6 ⟨ho6, hc6⟩
    have hkl := krB_len (krL_of hL h1000)
    have hs6 := hc6.size
    refine zak (fun args w => Tryd.call18 args w) (by simp only [List.map_toArray, List.map_cons, List.map_nil, evb, kb, hN, seval]; exact recAppend_c (hbp.chg hc6 fun h => h) (one_kr.stay (Stay.of hc6 fun _ _ _ h => h) hkr) (krL_of hL h1000) (by omega) (fun k hk => hk) ho6 (by unfold LIM; omega) hs6) ?_
    intro v7 w7 happ
    (repeat ((with_reducible refine zah ?_ ?_ ?_); (· simp [evb, pvb, rnb, kb, hN, dyb, sdb] <;> omega); (· kernel_rfl); try simp only [evb, pvb, rnb, kb, hN, seval])); refine zaa ?_; refine hK _ _ ?_; clear hK K; refine wp_ret ⟨by simp [zab, hD], ?_⟩; simp only [evb, kb, hN, seval]
    rw [← krB_of]
    refine .mk2 (base := w5.heap.size) happ.own (by have := hc05.size; omega) ((hc05.trans hc6 fun _ _ h => h).trans happ.chg fun n hn hk => ?_)
    have := (ho6.lt n hk).1
    omega
end Go.Proofs.YtojpodeljpfgaaaDoor
