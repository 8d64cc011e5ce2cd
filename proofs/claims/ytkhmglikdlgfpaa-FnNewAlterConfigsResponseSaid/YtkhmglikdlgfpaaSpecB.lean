import Derived.Test.YtkhmglikdlgfpaaSpecA
/-
The reference's small functions, further: contracts.
-/
namespace Go.Proofs.Ytkhmglikdlgfpaa
set_option linter.all false
open Go.RowKit
set_option maxRecDepth 10000
set_option maxHeartbeats 1000000

def zTree : List Value := [.int .i64 0, .slice none 0 0, .bool false, .slice none 0 0, .slice none 0 0]
def zTag : List Value := [.int .u32 0, .slice none 0 0]
theorem zTree_is (w : World) (G : Nat → Prop) : TrC w G .zero zTree := by
  unfold Tr.zero TrC
  exact ⟨none, 0, none, 0, _, rfl, by decide, Nat.le_refl _, Nat.le_refl _, .inl rfl, .inl rfl, none, 0, rfl, Nat.le_refl _, .inl rfl⟩

/-- Cells of a tree are values of one cell each. -/
theorem TrC.one {w : World} {G : Nat → Prop} {v : Tr} {cs : List Value} (h : TrC w G v cs) : ∀ x ∈ cs, x.oneCell' = true := by
  cases v
  unfold TrC at h
  obtain ⟨ob, cb, ol, cl, vt, rfl, _, _, _, _, _, ot, ct, rfl, _⟩ := h
  intro x hx
  simp only [List.mem_cons, List.not_mem_nil, or_false] at hx
  rcases hx with rfl | rfl | rfl | rfl | rfl <;> rfl
theorem SchF.one {w : World} {G : Nat → Prop} {f : Fld} {cs : List Value} (h : SchF w G f cs) : ∀ x ∈ cs, x.oneCell' = true := by
  cases f
  unfold SchF at h
  obtain ⟨oa, cap, rfl, _⟩ := h
  intro x hx
  simp only [List.mem_cons, List.not_mem_nil, or_false] at hx
  rcases hx with rfl | rfl | rfl | rfl | rfl | rfl | rfl | rfl <;> rfl

/-- at -/
theorem at_c (v : Tr) (i : Nat) {w : World} {G : Nat → Prop} {ts : List Value} (hv : TrC w G v ts) :
    CallsR Try.prog 144 #[aggOf ts, .int .i64 i] w fun r w' => (∃ rs, r = aggOf rs ∧ TrC w' G (v.th i) rs) ∧ Chg (fun _ => False) w w' := by
  obtain ⟨tl, t0, _, _, t2, ⟨x, t3, ol, cl, rfl, hcl, hl⟩, _⟩ := hv.cells
  refine callsR_ofC Try.func144 rfl rfl (by kernel_rfl) Try.ntmps144 (by simp) ?_
  intro a hN hD ha
  have h0 : get a 0 = aggOf ts := ha 0 _ rfl
  have h1 : get a 1 = .int .i64 i := ha 1 _ rfl
  refine wp_seq_k fun K hK => ?_; refine wp_reg ?_
  refine wl_boxA (by rw [eval_tmp]; exact h0) fun w1 hc hb hs => ?_
  refine wl_allocA (z := aggOf zTree) (fun w => Try.zeroValue35 w) fun w2 hc2 hb2 hs2 => ?_
  replace hb := hb.chg hc2 (fun h => h)
  replace hc := hc.trans hc2 (fun _ _ h => h)
  rw [hs] at hb2 ⊢
  refine wl_nil ?_; refine hK _ _ ?_; clear hK K
  refine wp_seq_k fun K hK => ?_; refine wp_seq_k fun K hK => ?_; refine wp_reg ?_
  (repeat (first | ((first | (with_reducible refine wl_move ?_) | (with_reducible refine wl_assign ?_) | ((with_reducible refine wl_conv ?_ ?_ ?_ ?_); (· kernel_rfl); (· kernel_rfl)) | (with_reducible refine wl_add ?_ ?_) | (with_reducible refine wl_sub ?_ ?_) | (with_reducible refine wl_lss ?_ ?_) | (with_reducible refine wl_leq ?_ ?_) | (with_reducible refine wl_gtr ?_ ?_) | (with_reducible refine wl_geq ?_ ?_) | (with_reducible refine wl_eql ?_ ?_) | (with_reducible refine wl_neq ?_ ?_) | (with_reducible refine wl_not ?_ ?_) | (with_reducible refine wl_shr ?_ ?_ ?_) | (with_reducible refine wl_and127 ?_ ?_) | (with_reducible refine wl_or128 ?_ ?_ ?_) | ((with_reducible refine wl_len ?_ ?_ ?_); rotate_left 1; (· simp [evb, kb, hN, Nat.reduceLT, Nat.reduceEqDiff, reduceIte, Int.reduceToNat, Int.reduceBEq, h1, bigb, sdb]); rotate_left 1; (· kernel_rfl)) | ((with_reducible refine wl_lenS ?_ ?_ ?_); rotate_left 1; (· simp [evb, kb, hN, Nat.reduceLT, Nat.reduceEqDiff, reduceIte, Int.reduceToNat, Int.reduceBEq, h1, bigb, sdb]); rotate_left 1; (· kernel_rfl)) | (with_reducible refine wl_min ?_ ?_ ?_) | (with_reducible refine wl_max ?_ ?_ ?_) | (with_reducible refine wl_mul ?_ ?_) | ((with_reducible refine wl_pickT ?_ ?_); (· simp [evb, kb, hN, Nat.reduceLT, Nat.reduceEqDiff, reduceIte, Int.reduceToNat, Int.reduceBEq, h1, bigb, sdb])) | ((with_reducible refine wl_pickF ?_ ?_); (· simp [evb, kb, hN, Nat.reduceLT, Nat.reduceEqDiff, reduceIte, Int.reduceToNat, Int.reduceBEq, h1, bigb, sdb]))) <;> (first | (with_reducible refine wl_id ?_; try simp only [evb, kb, hN, Nat.reduceLT, Nat.reduceEqDiff, reduceIte, Int.reduceToNat, Int.reduceBEq, h1, bigb]) | (simp [evb, kb, hN, Nat.reduceLT, Nat.reduceEqDiff, reduceIte, Int.reduceToNat, Int.reduceBEq, h1, bigb, sdb]; done) | (simp [evb, kb, hN, Nat.reduceLT, Nat.reduceEqDiff, reduceIte, Int.reduceToNat, Int.reduceBEq, h1, bigb, sdb]; omega))) | ((with_reducible apply wl_gyesB); (· exact rfl); (· exact rfl); (· simp [evb, kb, hN, Nat.reduceLT, Nat.reduceEqDiff, reduceIte, Int.reduceToNat, Int.reduceBEq, h1, bigb, sdb]); try simp only [evb, kb, hN, Nat.reduceLT, Nat.reduceEqDiff, reduceIte, Int.reduceToNat, Int.reduceBEq, h1, bigb]) | ((with_reducible apply wl_gnoB); (· exact rfl); (· exact rfl); (· simp [evb, kb, hN, Nat.reduceLT, Nat.reduceEqDiff, reduceIte, Int.reduceToNat, Int.reduceBEq, h1, bigb, sdb]); try simp only [evb, kb, hN, Nat.reduceLT, Nat.reduceEqDiff, reduceIte, Int.reduceToNat, Int.reduceBEq, h1, bigb]) | ((with_reducible apply wl_gnoU); (· exact rfl); (· exact rfl); (· simp [evb, kb, hN, Nat.reduceLT, Nat.reduceEqDiff, reduceIte, Int.reduceToNat, Int.reduceBEq, h1, bigb, sdb]); try simp only [evb, kb, hN, Nat.reduceLT, Nat.reduceEqDiff, reduceIte, Int.reduceToNat, Int.reduceBEq, h1, bigb])))
  with_reducible refine wl_fieldAt (b := w.heap.size) (off := 3) (n := 1) ?_ ?_ ?_; (· kernel_rfl); (· simp [evb, kb, hN, Nat.reduceLT, Nat.reduceEqDiff, reduceIte, Int.reduceToNat, Int.reduceBEq, sdb])
  with_reducible refine wl_load (b := w.heap.size) (o := 3) ?_ ?_ hb t3 ?_; (· kernel_rfl); (· simp [evb, kb, hN, Nat.reduceLT, Nat.reduceEqDiff, reduceIte, Int.reduceToNat, Int.reduceBEq, sdb])
  (repeat (first | ((first | (with_reducible refine wl_move ?_) | (with_reducible refine wl_assign ?_) | ((with_reducible refine wl_conv ?_ ?_ ?_ ?_); (· kernel_rfl); (· kernel_rfl)) | (with_reducible refine wl_add ?_ ?_) | (with_reducible refine wl_sub ?_ ?_) | (with_reducible refine wl_lss ?_ ?_) | (with_reducible refine wl_leq ?_ ?_) | (with_reducible refine wl_gtr ?_ ?_) | (with_reducible refine wl_geq ?_ ?_) | (with_reducible refine wl_eql ?_ ?_) | (with_reducible refine wl_neq ?_ ?_) | (with_reducible refine wl_not ?_ ?_) | (with_reducible refine wl_shr ?_ ?_ ?_) | (with_reducible refine wl_and127 ?_ ?_) | (with_reducible refine wl_or128 ?_ ?_ ?_) | ((with_reducible refine wl_len ?_ ?_ ?_); rotate_left 1; (· simp [evb, kb, hN, Nat.reduceLT, Nat.reduceEqDiff, reduceIte, Int.reduceToNat, Int.reduceBEq, h1, bigb, sdb]); rotate_left 1; (· kernel_rfl)) | ((with_reducible refine wl_lenS ?_ ?_ ?_); rotate_left 1; (· simp [evb, kb, hN, Nat.reduceLT, Nat.reduceEqDiff, reduceIte, Int.reduceToNat, Int.reduceBEq, h1, bigb, sdb]); rotate_left 1; (· kernel_rfl)) | (with_reducible refine wl_min ?_ ?_ ?_) | (with_reducible refine wl_max ?_ ?_ ?_) | (with_reducible refine wl_mul ?_ ?_) | ((with_reducible refine wl_pickT ?_ ?_); (· simp [evb, kb, hN, Nat.reduceLT, Nat.reduceEqDiff, reduceIte, Int.reduceToNat, Int.reduceBEq, h1, bigb, sdb])) | ((with_reducible refine wl_pickF ?_ ?_); (· simp [evb, kb, hN, Nat.reduceLT, Nat.reduceEqDiff, reduceIte, Int.reduceToNat, Int.reduceBEq, h1, bigb, sdb]))) <;> (first | (with_reducible refine wl_id ?_; try simp only [evb, kb, hN, Nat.reduceLT, Nat.reduceEqDiff, reduceIte, Int.reduceToNat, Int.reduceBEq, h1, bigb]) | (simp [evb, kb, hN, Nat.reduceLT, Nat.reduceEqDiff, reduceIte, Int.reduceToNat, Int.reduceBEq, h1, bigb, sdb]; done) | (simp [evb, kb, hN, Nat.reduceLT, Nat.reduceEqDiff, reduceIte, Int.reduceToNat, Int.reduceBEq, h1, bigb, sdb]; omega))) | ((with_reducible apply wl_gyesB); (· exact rfl); (· exact rfl); (· simp [evb, kb, hN, Nat.reduceLT, Nat.reduceEqDiff, reduceIte, Int.reduceToNat, Int.reduceBEq, h1, bigb, sdb]); try simp only [evb, kb, hN, Nat.reduceLT, Nat.reduceEqDiff, reduceIte, Int.reduceToNat, Int.reduceBEq, h1, bigb]) | ((with_reducible apply wl_gnoB); (· exact rfl); (· exact rfl); (· simp [evb, kb, hN, Nat.reduceLT, Nat.reduceEqDiff, reduceIte, Int.reduceToNat, Int.reduceBEq, h1, bigb, sdb]); try simp only [evb, kb, hN, Nat.reduceLT, Nat.reduceEqDiff, reduceIte, Int.reduceToNat, Int.reduceBEq, h1, bigb]) | ((with_reducible apply wl_gnoU); (· exact rfl); (· exact rfl); (· simp [evb, kb, hN, Nat.reduceLT, Nat.reduceEqDiff, reduceIte, Int.reduceToNat, Int.reduceBEq, h1, bigb, sdb]); try simp only [evb, kb, hN, Nat.reduceLT, Nat.reduceEqDiff, reduceIte, Int.reduceToNat, Int.reduceBEq, h1, bigb])))
  by_cases hi : (i : Int) < (v.l.length : Int)
  · have hi' : i < v.l.length := by omega
    simp only [hi, decide_true]
    refine wl_nil (hK _ _ ?_)
    refine wp_cond_true (by simp [evb, kb, hN, Nat.reduceLT, Nat.reduceEqDiff, reduceIte, Int.reduceToNat, Int.reduceBEq, sdb]) ?_
    clear hK K
    refine wp_seq_k fun K hK => ?_; refine wp_reg ?_
    rcases hl with hl | ⟨g, o, cs, T, rfl, hg, hbg, hcs⟩
    · rw [hl] at hi'; cases hi'
    have hx : v.l[i]? = some v.l[i] := by simp [hi']
    obtain ⟨hxc, hxl⟩ := hcs.get hx
    rw [List.drop_drop] at hxc
    rw [List.length_drop] at hxl
    have hbg2 := hbg.chg hc (fun h => h)
    with_reducible refine wl_fieldAt (b := w.heap.size) (off := 3) (n := 1) ?_ ?_ ?_; (· kernel_rfl); (· simp [evb, kb, hN, Nat.reduceLT, Nat.reduceEqDiff, reduceIte, Int.reduceToNat, Int.reduceBEq, sdb])
    with_reducible refine wl_load (b := w.heap.size) (o := 3) ?_ ?_ hb t3 ?_; (· kernel_rfl); (· simp [evb, kb, hN, Nat.reduceLT, Nat.reduceEqDiff, reduceIte, Int.reduceToNat, Int.reduceBEq, sdb])
    (repeat (first | ((first | (with_reducible refine wl_move ?_) | (with_reducible refine wl_assign ?_) | ((with_reducible refine wl_conv ?_ ?_ ?_ ?_); (· kernel_rfl); (· kernel_rfl)) | (with_reducible refine wl_add ?_ ?_) | (with_reducible refine wl_sub ?_ ?_) | (with_reducible refine wl_lss ?_ ?_) | (with_reducible refine wl_leq ?_ ?_) | (with_reducible refine wl_gtr ?_ ?_) | (with_reducible refine wl_geq ?_ ?_) | (with_reducible refine wl_eql ?_ ?_) | (with_reducible refine wl_neq ?_ ?_) | (with_reducible refine wl_not ?_ ?_) | (with_reducible refine wl_shr ?_ ?_ ?_) | (with_reducible refine wl_and127 ?_ ?_) | (with_reducible refine wl_or128 ?_ ?_ ?_) | ((with_reducible refine wl_len ?_ ?_ ?_); rotate_left 1; (· simp [evb, kb, hN, Nat.reduceLT, Nat.reduceEqDiff, reduceIte, Int.reduceToNat, Int.reduceBEq, h1, bigb, sdb]); rotate_left 1; (· kernel_rfl)) | ((with_reducible refine wl_lenS ?_ ?_ ?_); rotate_left 1; (· simp [evb, kb, hN, Nat.reduceLT, Nat.reduceEqDiff, reduceIte, Int.reduceToNat, Int.reduceBEq, h1, bigb, sdb]); rotate_left 1; (· kernel_rfl)) | (with_reducible refine wl_min ?_ ?_ ?_) | (with_reducible refine wl_max ?_ ?_ ?_) | (with_reducible refine wl_mul ?_ ?_) | ((with_reducible refine wl_pickT ?_ ?_); (· simp [evb, kb, hN, Nat.reduceLT, Nat.reduceEqDiff, reduceIte, Int.reduceToNat, Int.reduceBEq, h1, bigb, sdb])) | ((with_reducible refine wl_pickF ?_ ?_); (· simp [evb, kb, hN, Nat.reduceLT, Nat.reduceEqDiff, reduceIte, Int.reduceToNat, Int.reduceBEq, h1, bigb, sdb]))) <;> (first | (with_reducible refine wl_id ?_; try simp only [evb, kb, hN, Nat.reduceLT, Nat.reduceEqDiff, reduceIte, Int.reduceToNat, Int.reduceBEq, h1, bigb]) | (simp [evb, kb, hN, Nat.reduceLT, Nat.reduceEqDiff, reduceIte, Int.reduceToNat, Int.reduceBEq, h1, bigb, sdb]; done) | (simp [evb, kb, hN, Nat.reduceLT, Nat.reduceEqDiff, reduceIte, Int.reduceToNat, Int.reduceBEq, h1, bigb, sdb]; omega))) | ((with_reducible apply wl_gyesB); (· exact rfl); (· exact rfl); (· simp [evb, kb, hN, Nat.reduceLT, Nat.reduceEqDiff, reduceIte, Int.reduceToNat, Int.reduceBEq, h1, bigb, sdb]); try simp only [evb, kb, hN, Nat.reduceLT, Nat.reduceEqDiff, reduceIte, Int.reduceToNat, Int.reduceBEq, h1, bigb]) | ((with_reducible apply wl_gnoB); (· exact rfl); (· exact rfl); (· simp [evb, kb, hN, Nat.reduceLT, Nat.reduceEqDiff, reduceIte, Int.reduceToNat, Int.reduceBEq, h1, bigb, sdb]); try simp only [evb, kb, hN, Nat.reduceLT, Nat.reduceEqDiff, reduceIte, Int.reduceToNat, Int.reduceBEq, h1, bigb]) | ((with_reducible apply wl_gnoU); (· exact rfl); (· exact rfl); (· simp [evb, kb, hN, Nat.reduceLT, Nat.reduceEqDiff, reduceIte, Int.reduceToNat, Int.reduceBEq, h1, bigb, sdb]); try simp only [evb, kb, hN, Nat.reduceLT, Nat.reduceEqDiff, reduceIte, Int.reduceToNat, Int.reduceBEq, h1, bigb])))
    refine wl_indexAddr (b := g) (o := o) (k := .i64) (i := i) (n := 5) (len := v.l.length) (cap := cl) (by kernel_rfl) (by simp [evb, kb, hN, Nat.reduceLT, Nat.reduceEqDiff, reduceIte, Int.reduceToNat, Int.reduceBEq, sdb]) (by simp [evb, kb, hN, Nat.reduceLT, Nat.reduceEqDiff, reduceIte, Int.reduceToNat, Int.reduceBEq, h1, sdb]) hi' ?_
    refine wl_loadAgg (b := g) (o := o + i * 5) (n := 5) (by kernel_rfl) (by kernel_rfl) (by simp [evb, kb, hN, Nat.reduceLT, Nat.reduceEqDiff, reduceIte, Int.reduceToNat, Int.reduceBEq, sdb]) hbg2 (by omega) ?_
    have hlen := hxc.len
    refine wl_storeAll (b := w.heap.size + 1) (n := 5) (l' := ((cs.drop (o + i * 5)).take 5)) (by kernel_rfl) (by simp [evb, kb, hN, Nat.reduceLT, Nat.reduceEqDiff, reduceIte, Int.reduceToNat, Int.reduceBEq, sdb]) (by simp [evb, kb, hN, Nat.reduceLT, Nat.reduceEqDiff, reduceIte, Int.reduceToNat, Int.reduceBEq, sdb]; rfl) hb2 hlen hxc.one rfl fun w3 hb3 hc3 => ?_
    refine wl_nil ?_; refine hK _ _ ?_; clear hK K
    have hc4 : Chg (fun _ => False) w w3 := hc.trans hc3 (fun n hn h => by omega)
    refine wp_ret ⟨by simp [defers_put, hD], w.heap.size + 1, _, _, by simp only [evb, kb, hN, Nat.reduceLT, Nat.reduceEqDiff, reduceIte, Int.reduceToNat, Int.reduceBEq], hb3, by rw [hlen]; kernel_rfl, ⟨_, rfl, ?_⟩, hc4⟩
    unfold Tr.th
    rw [hx]
    exact hxc.stay (Stay.none hc4)
  · simp only [hi, decide_false]
    refine wl_nil (hK _ _ ?_)
    refine wp_cond_false (by simp [evb, kb, hN, Nat.reduceLT, Nat.reduceEqDiff, reduceIte, Int.reduceToNat, Int.reduceBEq, sdb]) ?_
    refine wp_skip ?_
    clear hK K
    rename_i K hK
    refine hK _ _ ?_
    clear hK K
    refine wp_seq_k fun K hK => ?_; refine wp_reg ?_
    refine wl_build (l := zTree) (by kernel_rfl) ?_
    refine wl_storeAll (b := w.heap.size + 1) (n := 5) (l' := zTree) (by kernel_rfl) (by simp [evb, kb, hN, Nat.reduceLT, Nat.reduceEqDiff, reduceIte, Int.reduceToNat, Int.reduceBEq, sdb]) (by simp [evb, kb, hN, Nat.reduceLT, Nat.reduceEqDiff, reduceIte, Int.reduceToNat, Int.reduceBEq, sdb]) hb2 rfl (zTree_is w G).one rfl fun w3 hb3 hc3 => ?_
    refine wl_nil ?_; refine hK _ _ ?_; clear hK K
    have hc4 : Chg (fun _ => False) w w3 := hc.trans hc3 (fun n hn h => by omega)
    refine wp_ret ⟨by simp [defers_put, hD], w.heap.size + 1, _, _, by simp only [evb, kb, hN, Nat.reduceLT, Nat.reduceEqDiff, reduceIte, Int.reduceToNat, Int.reduceBEq], hb3, by kernel_rfl, ⟨_, rfl, ?_⟩, hc4⟩
    unfold Tr.th
    rw [List.getElem?_eq_none (by omega)]
    exact zTree_is _ _
end Go.Proofs.Ytkhmglikdlgfpaa
