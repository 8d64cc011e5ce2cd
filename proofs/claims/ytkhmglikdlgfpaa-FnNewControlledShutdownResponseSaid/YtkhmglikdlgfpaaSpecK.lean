import Derived.Test.YtkhmglikdlgfpaaSpecJ
/-
The reference: parts of all schemas; messages; how schemas are laid.
-/
namespace Go.Proofs.Ytkhmglikdlgfpaa
set_option linter.all false
open Go.RowKit
set_option maxRecDepth 10000
set_option maxHeartbeats 1000000

mutual
/-- A schema as the reference has them. -/
def okF : Fld → Bool
  | .mk _ _ _ _ tag df of sub => decide (of ≠ .list) && decide (tag < 1073741824) && decide (sub.length ≤ 1073741824) && okL sub && (decide (-9223372036854775808 ≤ df) && decide (df ≤ 9223372036854775807))
def okL : List Fld → Bool
  | [] => true
  | f :: r => okF f && okL r
end
mutual
theorem okF.fok : ∀ {f : Fld}, okF f = true → FOK f
  | .mk _ _ _ _ tag _ of sub, h => by
    unfold okF at h
    simp only [Bool.and_eq_true, decide_eq_true_eq] at h
    unfold FOK
    exact ⟨h.1.1.2, okL.lok h.1.2⟩
theorem okL.lok : ∀ {fs : List Fld}, okL fs = true → LOK fs
  | [], _ => by unfold LOK; trivial
  | f :: r, h => by
    unfold okL at h
    simp only [Bool.and_eq_true] at h
    unfold LOK
    refine ⟨?_, okF.fok h.1, okL.lok h.2⟩
    have h1 := h.1
    cases f
    unfold okF at h1
    simp only [Bool.and_eq_true, decide_eq_true_eq] at h1
    exact h1.1.1.1.2
end
theorem okL.mem : ∀ {fs : List Fld}, okL fs = true → ∀ f ∈ fs, okF f = true
  | [], _, f, hf => by cases hf
  | g :: r, h, f, hf => by
    unfold okL at h
    simp only [Bool.and_eq_true] at h
    rcases List.mem_cons.1 hf with rfl | hf
    · exact h.1
    · exact okL.mem h.2 f hf

theorem part_N : ∀ (N : Nat) (fs : List Fld), SizeOf.sizeOf fs < N → okL fs = true → fs.length ≤ 1073741824 → PartC fs
  | 0, _, h, _, _ => by omega
  | N + 1, fs, hN, hok, hlen => by
    refine part_of fs hlen (okL.lok hok) fun f hf => ?_
    have h1 := okL.mem hok f hf
    have hs := List.sizeOf_lt_of_mem hf
    cases f with
    | mk k a b nl tg df of sub =>
      unfold okF at h1
      simp only [Bool.and_eq_true, decide_eq_true_eq] at h1
      refine ⟨h1.1.1.1.1, fun _ => part_N N sub ?_ h1.1.2 h1.1.1.2⟩
      simp only [Fld.mk.sizeOf_spec] at hs
      omega
theorem part_c (fs : List Fld) (hok : okL fs = true) (hlen : fs.length ≤ 1073741824) : PartC fs := part_N _ fs (Nat.lt_succ_self _) hok hlen

/-! ### A message is written -/

theorem Write_c (fs : List Fld) (flex ver : Int) (v : Tr) (hok : okL fs = true) (hlen : fs.length ≤ 1073741824) (hvo : TROK v) (hlim : (sPart (decide (0 ≤ flex) && decide (flex ≤ ver)) ver fs v).length ≤ SLIM)
    {w : World} {G G' : Nat → Prop} {sv : Value} {ts : List Value} (hfs : SchS w G fs sv) (hv : TrC w G' v ts) :
    CallsR Try.prog 22 #[aggOf [sv, .int .i64 flex], .int .i64 ver, aggOf ts] w fun r w' => Octs w r (sPart (decide (0 ≤ flex) && decide (flex ≤ ver)) ver fs v) w' := by
  refine callsR_of Try.func22 rfl rfl Try.ntmps22 (by simp) ?_
  intro a hN hD ha
  have h0 : get a 0 = aggOf [sv, .int .i64 flex] := ha 0 _ rfl
  have h1 : get a 1 = .int .i64 ver := ha 1 _ rfl
  have h2 : get a 2 = aggOf ts := ha 2 _ rfl
  refine wp_seq_k fun K hK => ?_; refine wp_reg ?_
  refine wl_boxA (l := [sv, .int .i64 flex]) (by simp [evb, kb, hN, Nat.reduceLT, Nat.reduceEqDiff, reduceIte, Int.reduceToNat, Int.reduceBEq, h0, sdb]) fun w1 hc hb hs => ?_
  refine wl_boxA (l := ts) (by simp [evb, kb, hN, Nat.reduceLT, Nat.reduceEqDiff, reduceIte, Int.reduceToNat, Int.reduceBEq, h2, sdb]) fun w2 hc2 hb2 hs2 => ?_
  replace hb := hb.chg hc2 (fun h => h)
  replace hc := hc.trans hc2 (fun _ _ h => h)
  rw [hs] at hb2 ⊢
  (repeat (first | ((first | (with_reducible refine wl_move ?_) | (with_reducible refine wl_assign ?_) | ((with_reducible refine wl_conv ?_ ?_ ?_ ?_); (· kernel_rfl); (· kernel_rfl)) | (with_reducible refine wl_add ?_ ?_) | (with_reducible refine wl_sub ?_ ?_) | (with_reducible refine wl_lss ?_ ?_) | (with_reducible refine wl_leq ?_ ?_) | (with_reducible refine wl_gtr ?_ ?_) | (with_reducible refine wl_geq ?_ ?_) | (with_reducible refine wl_eql ?_ ?_) | (with_reducible refine wl_neq ?_ ?_) | (with_reducible refine wl_not ?_ ?_) | (with_reducible refine wl_shr ?_ ?_ ?_) | (with_reducible refine wl_and127 ?_ ?_) | (with_reducible refine wl_or128 ?_ ?_ ?_) | ((with_reducible refine wl_len ?_ ?_ ?_); rotate_left 1; (· simp [evb, kb, hN, Nat.reduceLT, Nat.reduceEqDiff, reduceIte, Int.reduceToNat, Int.reduceBEq, sdb]); rotate_left 1; (· kernel_rfl)) | ((with_reducible refine wl_lenS ?_ ?_ ?_); rotate_left 1; (· simp [evb, kb, hN, Nat.reduceLT, Nat.reduceEqDiff, reduceIte, Int.reduceToNat, Int.reduceBEq, sdb]); rotate_left 1; (· kernel_rfl))) <;> (first | (with_reducible refine wl_id ?_; try simp only [evb, kb, hN, Nat.reduceLT, Nat.reduceEqDiff, reduceIte, Int.reduceToNat, Int.reduceBEq]) | (simp [evb, kb, hN, Nat.reduceLT, Nat.reduceEqDiff, reduceIte, Int.reduceToNat, Int.reduceBEq, sdb]; done) | (simp [evb, kb, hN, Nat.reduceLT, Nat.reduceEqDiff, reduceIte, Int.reduceToNat, Int.reduceBEq, sdb]; omega)))))
  refine wl_nil ?_; refine hK _ _ ?_; clear hK K
  have e5 : (ts.drop 0).take 5 = ts := by rw [List.drop_zero, List.take_of_length_le (by rw [hv.len]; omega)]
  obtain ⟨oa, cap, rfl, hfs'⟩ := id hfs
  have fin : ∀ (b : Bool), b = (decide (0 ≤ flex) && decide (flex ≤ ver)) → CallsR Try.prog 67 #[.slice oa fs.length cap, .int .i64 ver, .bool b, aggOf ts] w2 fun r w' => Octs w2 r (sPart (decide (0 ≤ flex) && decide (flex ≤ ver)) ver fs v) w' := by
    rintro b rfl
    exact part_c fs hok hlen ver _ v hvo hlim (hfs.stay (Stay.none hc)) (hv.stay (Stay.none hc))
  refine wp_seq_k fun K hK => ?_; refine wp_reg ?_
  with_reducible refine wl_fieldAt (b := w.heap.size) (off := 0) (n := 1) ?_ ?_ ?_; (· kernel_rfl); (· simp [evb, kb, hN, Nat.reduceLT, Nat.reduceEqDiff, reduceIte, Int.reduceToNat, Int.reduceBEq, sdb])
  with_reducible refine wl_load (b := w.heap.size) (o := 0) ?_ ?_ hb rfl ?_; (· kernel_rfl); (· simp [evb, kb, hN, Nat.reduceLT, Nat.reduceEqDiff, reduceIte, Int.reduceToNat, Int.reduceBEq, sdb])
  (repeat (first | ((first | (with_reducible refine wl_move ?_) | (with_reducible refine wl_assign ?_) | ((with_reducible refine wl_conv ?_ ?_ ?_ ?_); (· kernel_rfl); (· kernel_rfl)) | (with_reducible refine wl_add ?_ ?_) | (with_reducible refine wl_sub ?_ ?_) | (with_reducible refine wl_lss ?_ ?_) | (with_reducible refine wl_leq ?_ ?_) | (with_reducible refine wl_gtr ?_ ?_) | (with_reducible refine wl_geq ?_ ?_) | (with_reducible refine wl_eql ?_ ?_) | (with_reducible refine wl_neq ?_ ?_) | (with_reducible refine wl_not ?_ ?_) | (with_reducible refine wl_shr ?_ ?_ ?_) | (with_reducible refine wl_and127 ?_ ?_) | (with_reducible refine wl_or128 ?_ ?_ ?_) | ((with_reducible refine wl_len ?_ ?_ ?_); rotate_left 1; (· simp [evb, kb, hN, Nat.reduceLT, Nat.reduceEqDiff, reduceIte, Int.reduceToNat, Int.reduceBEq, h1, sdb]); rotate_left 1; (· kernel_rfl)) | ((with_reducible refine wl_lenS ?_ ?_ ?_); rotate_left 1; (· simp [evb, kb, hN, Nat.reduceLT, Nat.reduceEqDiff, reduceIte, Int.reduceToNat, Int.reduceBEq, h1, sdb]); rotate_left 1; (· kernel_rfl))) <;> (first | (with_reducible refine wl_id ?_; try simp only [evb, kb, hN, Nat.reduceLT, Nat.reduceEqDiff, reduceIte, Int.reduceToNat, Int.reduceBEq, h1]) | (simp [evb, kb, hN, Nat.reduceLT, Nat.reduceEqDiff, reduceIte, Int.reduceToNat, Int.reduceBEq, h1, sdb]; done) | (simp [evb, kb, hN, Nat.reduceLT, Nat.reduceEqDiff, reduceIte, Int.reduceToNat, Int.reduceBEq, h1, sdb]; omega)))))
  with_reducible refine wl_fieldAt (b := w.heap.size) (off := 1) (n := 1) ?_ ?_ ?_; (· kernel_rfl); (· simp [evb, kb, hN, Nat.reduceLT, Nat.reduceEqDiff, reduceIte, Int.reduceToNat, Int.reduceBEq, sdb])
  with_reducible refine wl_load (b := w.heap.size) (o := 1) ?_ ?_ hb rfl ?_; (· kernel_rfl); (· simp [evb, kb, hN, Nat.reduceLT, Nat.reduceEqDiff, reduceIte, Int.reduceToNat, Int.reduceBEq, sdb])
  (repeat (first | ((first | (with_reducible refine wl_move ?_) | (with_reducible refine wl_assign ?_) | ((with_reducible refine wl_conv ?_ ?_ ?_ ?_); (· kernel_rfl); (· kernel_rfl)) | (with_reducible refine wl_add ?_ ?_) | (with_reducible refine wl_sub ?_ ?_) | (with_reducible refine wl_lss ?_ ?_) | (with_reducible refine wl_leq ?_ ?_) | (with_reducible refine wl_gtr ?_ ?_) | (with_reducible refine wl_geq ?_ ?_) | (with_reducible refine wl_eql ?_ ?_) | (with_reducible refine wl_neq ?_ ?_) | (with_reducible refine wl_not ?_ ?_) | (with_reducible refine wl_shr ?_ ?_ ?_) | (with_reducible refine wl_and127 ?_ ?_) | (with_reducible refine wl_or128 ?_ ?_ ?_) | ((with_reducible refine wl_len ?_ ?_ ?_); rotate_left 1; (· simp [evb, kb, hN, Nat.reduceLT, Nat.reduceEqDiff, reduceIte, Int.reduceToNat, Int.reduceBEq, sdb]); rotate_left 1; (· kernel_rfl)) | ((with_reducible refine wl_lenS ?_ ?_ ?_); rotate_left 1; (· simp [evb, kb, hN, Nat.reduceLT, Nat.reduceEqDiff, reduceIte, Int.reduceToNat, Int.reduceBEq, sdb]); rotate_left 1; (· kernel_rfl))) <;> (first | (with_reducible refine wl_id ?_; try simp only [evb, kb, hN, Nat.reduceLT, Nat.reduceEqDiff, reduceIte, Int.reduceToNat, Int.reduceBEq]) | (simp [evb, kb, hN, Nat.reduceLT, Nat.reduceEqDiff, reduceIte, Int.reduceToNat, Int.reduceBEq, sdb]; done) | (simp [evb, kb, hN, Nat.reduceLT, Nat.reduceEqDiff, reduceIte, Int.reduceToNat, Int.reduceBEq, sdb]; omega)))))
  by_cases hf : 0 ≤ flex
  · (repeat (first | ((first | (with_reducible refine wl_move ?_) | (with_reducible refine wl_assign ?_) | ((with_reducible refine wl_conv ?_ ?_ ?_ ?_); (· kernel_rfl); (· kernel_rfl)) | (with_reducible refine wl_add ?_ ?_) | (with_reducible refine wl_sub ?_ ?_) | (with_reducible refine wl_lss ?_ ?_) | (with_reducible refine wl_leq ?_ ?_) | (with_reducible refine wl_gtr ?_ ?_) | (with_reducible refine wl_geq ?_ ?_) | (with_reducible refine wl_eql ?_ ?_) | (with_reducible refine wl_neq ?_ ?_) | (with_reducible refine wl_not ?_ ?_) | (with_reducible refine wl_shr ?_ ?_ ?_) | (with_reducible refine wl_and127 ?_ ?_) | (with_reducible refine wl_or128 ?_ ?_ ?_) | ((with_reducible refine wl_len ?_ ?_ ?_); rotate_left 1; (· simp [evb, kb, hN, Nat.reduceLT, Nat.reduceEqDiff, reduceIte, Int.reduceToNat, Int.reduceBEq, h1, hf, bigb, sdb]); rotate_left 1; (· kernel_rfl)) | ((with_reducible refine wl_lenS ?_ ?_ ?_); rotate_left 1; (· simp [evb, kb, hN, Nat.reduceLT, Nat.reduceEqDiff, reduceIte, Int.reduceToNat, Int.reduceBEq, h1, hf, bigb, sdb]); rotate_left 1; (· kernel_rfl)) | (with_reducible refine wl_min ?_ ?_ ?_) | (with_reducible refine wl_max ?_ ?_ ?_) | (with_reducible refine wl_mul ?_ ?_) | ((with_reducible refine wl_pickT ?_ ?_); (· simp [evb, kb, hN, Nat.reduceLT, Nat.reduceEqDiff, reduceIte, Int.reduceToNat, Int.reduceBEq, h1, hf, bigb, sdb])) | ((with_reducible refine wl_pickF ?_ ?_); (· simp [evb, kb, hN, Nat.reduceLT, Nat.reduceEqDiff, reduceIte, Int.reduceToNat, Int.reduceBEq, h1, hf, bigb, sdb]))) <;> (first | (with_reducible refine wl_id ?_; try simp only [evb, kb, hN, Nat.reduceLT, Nat.reduceEqDiff, reduceIte, Int.reduceToNat, Int.reduceBEq, h1, hf, bigb]) | (simp [evb, kb, hN, Nat.reduceLT, Nat.reduceEqDiff, reduceIte, Int.reduceToNat, Int.reduceBEq, h1, hf, bigb, sdb]; done) | (simp [evb, kb, hN, Nat.reduceLT, Nat.reduceEqDiff, reduceIte, Int.reduceToNat, Int.reduceBEq, h1, hf, bigb, sdb]; omega))) | ((with_reducible apply wl_gyesB); (· exact rfl); (· exact rfl); (· simp [evb, kb, hN, Nat.reduceLT, Nat.reduceEqDiff, reduceIte, Int.reduceToNat, Int.reduceBEq, h1, hf, bigb, sdb]); try simp only [evb, kb, hN, Nat.reduceLT, Nat.reduceEqDiff, reduceIte, Int.reduceToNat, Int.reduceBEq, h1, hf, bigb]) | ((with_reducible apply wl_gnoB); (· exact rfl); (· exact rfl); (· simp [evb, kb, hN, Nat.reduceLT, Nat.reduceEqDiff, reduceIte, Int.reduceToNat, Int.reduceBEq, h1, hf, bigb, sdb]); try simp only [evb, kb, hN, Nat.reduceLT, Nat.reduceEqDiff, reduceIte, Int.reduceToNat, Int.reduceBEq, h1, hf, bigb]) | ((with_reducible apply wl_gnoU); (· exact rfl); (· exact rfl); (· simp [evb, kb, hN, Nat.reduceLT, Nat.reduceEqDiff, reduceIte, Int.reduceToNat, Int.reduceBEq, h1, hf, bigb, sdb]); try simp only [evb, kb, hN, Nat.reduceLT, Nat.reduceEqDiff, reduceIte, Int.reduceToNat, Int.reduceBEq, h1, hf, bigb])))
    with_reducible refine wl_fieldAt (b := w.heap.size) (off := 1) (n := 1) ?_ ?_ ?_; (· kernel_rfl); (· simp [evb, kb, hN, Nat.reduceLT, Nat.reduceEqDiff, reduceIte, Int.reduceToNat, Int.reduceBEq, sdb])
    (repeat (first | ((first | (with_reducible refine wl_move ?_) | (with_reducible refine wl_assign ?_) | ((with_reducible refine wl_conv ?_ ?_ ?_ ?_); (· kernel_rfl); (· kernel_rfl)) | (with_reducible refine wl_add ?_ ?_) | (with_reducible refine wl_sub ?_ ?_) | (with_reducible refine wl_lss ?_ ?_) | (with_reducible refine wl_leq ?_ ?_) | (with_reducible refine wl_gtr ?_ ?_) | (with_reducible refine wl_geq ?_ ?_) | (with_reducible refine wl_eql ?_ ?_) | (with_reducible refine wl_neq ?_ ?_) | (with_reducible refine wl_not ?_ ?_) | (with_reducible refine wl_shr ?_ ?_ ?_) | (with_reducible refine wl_and127 ?_ ?_) | (with_reducible refine wl_or128 ?_ ?_ ?_) | ((with_reducible refine wl_len ?_ ?_ ?_); rotate_left 1; (· simp [evb, kb, hN, Nat.reduceLT, Nat.reduceEqDiff, reduceIte, Int.reduceToNat, Int.reduceBEq, hf, bigb, sdb]); rotate_left 1; (· kernel_rfl)) | ((with_reducible refine wl_lenS ?_ ?_ ?_); rotate_left 1; (· simp [evb, kb, hN, Nat.reduceLT, Nat.reduceEqDiff, reduceIte, Int.reduceToNat, Int.reduceBEq, hf, bigb, sdb]); rotate_left 1; (· kernel_rfl)) | (with_reducible refine wl_min ?_ ?_ ?_) | (with_reducible refine wl_max ?_ ?_ ?_) | (with_reducible refine wl_mul ?_ ?_) | ((with_reducible refine wl_pickT ?_ ?_); (· simp [evb, kb, hN, Nat.reduceLT, Nat.reduceEqDiff, reduceIte, Int.reduceToNat, Int.reduceBEq, hf, bigb, sdb])) | ((with_reducible refine wl_pickF ?_ ?_); (· simp [evb, kb, hN, Nat.reduceLT, Nat.reduceEqDiff, reduceIte, Int.reduceToNat, Int.reduceBEq, hf, bigb, sdb]))) <;> (first | (with_reducible refine wl_id ?_; try simp only [evb, kb, hN, Nat.reduceLT, Nat.reduceEqDiff, reduceIte, Int.reduceToNat, Int.reduceBEq, hf, bigb]) | (simp [evb, kb, hN, Nat.reduceLT, Nat.reduceEqDiff, reduceIte, Int.reduceToNat, Int.reduceBEq, hf, bigb, sdb]; done) | (simp [evb, kb, hN, Nat.reduceLT, Nat.reduceEqDiff, reduceIte, Int.reduceToNat, Int.reduceBEq, hf, bigb, sdb]; omega))) | ((with_reducible apply wl_gyesB); (· exact rfl); (· exact rfl); (· simp [evb, kb, hN, Nat.reduceLT, Nat.reduceEqDiff, reduceIte, Int.reduceToNat, Int.reduceBEq, hf, bigb, sdb]); try simp only [evb, kb, hN, Nat.reduceLT, Nat.reduceEqDiff, reduceIte, Int.reduceToNat, Int.reduceBEq, hf, bigb]) | ((with_reducible apply wl_gnoB); (· exact rfl); (· exact rfl); (· simp [evb, kb, hN, Nat.reduceLT, Nat.reduceEqDiff, reduceIte, Int.reduceToNat, Int.reduceBEq, hf, bigb, sdb]); try simp only [evb, kb, hN, Nat.reduceLT, Nat.reduceEqDiff, reduceIte, Int.reduceToNat, Int.reduceBEq, hf, bigb]) | ((with_reducible apply wl_gnoU); (· exact rfl); (· exact rfl); (· simp [evb, kb, hN, Nat.reduceLT, Nat.reduceEqDiff, reduceIte, Int.reduceToNat, Int.reduceBEq, hf, bigb, sdb]); try simp only [evb, kb, hN, Nat.reduceLT, Nat.reduceEqDiff, reduceIte, Int.reduceToNat, Int.reduceBEq, hf, bigb])))
    with_reducible refine wl_load (b := w.heap.size) (o := 1) ?_ ?_ hb rfl ?_; (· kernel_rfl); (· simp [evb, kb, hN, Nat.reduceLT, Nat.reduceEqDiff, reduceIte, Int.reduceToNat, Int.reduceBEq, sdb])
    (repeat (first | ((first | (with_reducible refine wl_move ?_) | (with_reducible refine wl_assign ?_) | ((with_reducible refine wl_conv ?_ ?_ ?_ ?_); (· kernel_rfl); (· kernel_rfl)) | (with_reducible refine wl_add ?_ ?_) | (with_reducible refine wl_sub ?_ ?_) | (with_reducible refine wl_lss ?_ ?_) | (with_reducible refine wl_leq ?_ ?_) | (with_reducible refine wl_gtr ?_ ?_) | (with_reducible refine wl_geq ?_ ?_) | (with_reducible refine wl_eql ?_ ?_) | (with_reducible refine wl_neq ?_ ?_) | (with_reducible refine wl_not ?_ ?_) | (with_reducible refine wl_shr ?_ ?_ ?_) | (with_reducible refine wl_and127 ?_ ?_) | (with_reducible refine wl_or128 ?_ ?_ ?_) | ((with_reducible refine wl_len ?_ ?_ ?_); rotate_left 1; (· simp [evb, kb, hN, Nat.reduceLT, Nat.reduceEqDiff, reduceIte, Int.reduceToNat, Int.reduceBEq, hf, bigb, sdb]); rotate_left 1; (· kernel_rfl)) | ((with_reducible refine wl_lenS ?_ ?_ ?_); rotate_left 1; (· simp [evb, kb, hN, Nat.reduceLT, Nat.reduceEqDiff, reduceIte, Int.reduceToNat, Int.reduceBEq, hf, bigb, sdb]); rotate_left 1; (· kernel_rfl)) | (with_reducible refine wl_min ?_ ?_ ?_) | (with_reducible refine wl_max ?_ ?_ ?_) | (with_reducible refine wl_mul ?_ ?_) | ((with_reducible refine wl_pickT ?_ ?_); (· simp [evb, kb, hN, Nat.reduceLT, Nat.reduceEqDiff, reduceIte, Int.reduceToNat, Int.reduceBEq, hf, bigb, sdb])) | ((with_reducible refine wl_pickF ?_ ?_); (· simp [evb, kb, hN, Nat.reduceLT, Nat.reduceEqDiff, reduceIte, Int.reduceToNat, Int.reduceBEq, hf, bigb, sdb]))) <;> (first | (with_reducible refine wl_id ?_; try simp only [evb, kb, hN, Nat.reduceLT, Nat.reduceEqDiff, reduceIte, Int.reduceToNat, Int.reduceBEq, hf, bigb]) | (simp [evb, kb, hN, Nat.reduceLT, Nat.reduceEqDiff, reduceIte, Int.reduceToNat, Int.reduceBEq, hf, bigb, sdb]; done) | (simp [evb, kb, hN, Nat.reduceLT, Nat.reduceEqDiff, reduceIte, Int.reduceToNat, Int.reduceBEq, hf, bigb, sdb]; omega))) | ((with_reducible apply wl_gyesB); (· exact rfl); (· exact rfl); (· simp [evb, kb, hN, Nat.reduceLT, Nat.reduceEqDiff, reduceIte, Int.reduceToNat, Int.reduceBEq, hf, bigb, sdb]); try simp only [evb, kb, hN, Nat.reduceLT, Nat.reduceEqDiff, reduceIte, Int.reduceToNat, Int.reduceBEq, hf, bigb]) | ((with_reducible apply wl_gnoB); (· exact rfl); (· exact rfl); (· simp [evb, kb, hN, Nat.reduceLT, Nat.reduceEqDiff, reduceIte, Int.reduceToNat, Int.reduceBEq, hf, bigb, sdb]); try simp only [evb, kb, hN, Nat.reduceLT, Nat.reduceEqDiff, reduceIte, Int.reduceToNat, Int.reduceBEq, hf, bigb]) | ((with_reducible apply wl_gnoU); (· exact rfl); (· exact rfl); (· simp [evb, kb, hN, Nat.reduceLT, Nat.reduceEqDiff, reduceIte, Int.reduceToNat, Int.reduceBEq, hf, bigb, sdb]); try simp only [evb, kb, hN, Nat.reduceLT, Nat.reduceEqDiff, reduceIte, Int.reduceToNat, Int.reduceBEq, hf, bigb])))
    refine wl_loadAgg (b := w.heap.size + 1) (o := 0) (n := 5) (by kernel_rfl) (by kernel_rfl) (by simp [evb, kb, hN, Nat.reduceLT, Nat.reduceEqDiff, reduceIte, Int.reduceToNat, Int.reduceBEq, sdb]) hb2 (by rw [hv.len]; omega) ?_
    rw [e5]
    (repeat (first | ((first | (with_reducible refine wl_move ?_) | (with_reducible refine wl_assign ?_) | ((with_reducible refine wl_conv ?_ ?_ ?_ ?_); (· kernel_rfl); (· kernel_rfl)) | (with_reducible refine wl_add ?_ ?_) | (with_reducible refine wl_sub ?_ ?_) | (with_reducible refine wl_lss ?_ ?_) | (with_reducible refine wl_leq ?_ ?_) | (with_reducible refine wl_gtr ?_ ?_) | (with_reducible refine wl_geq ?_ ?_) | (with_reducible refine wl_eql ?_ ?_) | (with_reducible refine wl_neq ?_ ?_) | (with_reducible refine wl_not ?_ ?_) | (with_reducible refine wl_shr ?_ ?_ ?_) | (with_reducible refine wl_and127 ?_ ?_) | (with_reducible refine wl_or128 ?_ ?_ ?_) | ((with_reducible refine wl_len ?_ ?_ ?_); rotate_left 1; (· simp [evb, kb, hN, Nat.reduceLT, Nat.reduceEqDiff, reduceIte, Int.reduceToNat, Int.reduceBEq, hf, bigb, sdb]); rotate_left 1; (· kernel_rfl)) | ((with_reducible refine wl_lenS ?_ ?_ ?_); rotate_left 1; (· simp [evb, kb, hN, Nat.reduceLT, Nat.reduceEqDiff, reduceIte, Int.reduceToNat, Int.reduceBEq, hf, bigb, sdb]); rotate_left 1; (· kernel_rfl)) | (with_reducible refine wl_min ?_ ?_ ?_) | (with_reducible refine wl_max ?_ ?_ ?_) | (with_reducible refine wl_mul ?_ ?_) | ((with_reducible refine wl_pickT ?_ ?_); (· simp [evb, kb, hN, Nat.reduceLT, Nat.reduceEqDiff, reduceIte, Int.reduceToNat, Int.reduceBEq, hf, bigb, sdb])) | ((with_reducible refine wl_pickF ?_ ?_); (· simp [evb, kb, hN, Nat.reduceLT, Nat.reduceEqDiff, reduceIte, Int.reduceToNat, Int.reduceBEq, hf, bigb, sdb]))) <;> (first | (with_reducible refine wl_id ?_; try simp only [evb, kb, hN, Nat.reduceLT, Nat.reduceEqDiff, reduceIte, Int.reduceToNat, Int.reduceBEq, hf, bigb]) | (simp [evb, kb, hN, Nat.reduceLT, Nat.reduceEqDiff, reduceIte, Int.reduceToNat, Int.reduceBEq, hf, bigb, sdb]; done) | (simp [evb, kb, hN, Nat.reduceLT, Nat.reduceEqDiff, reduceIte, Int.reduceToNat, Int.reduceBEq, hf, bigb, sdb]; omega))) | ((with_reducible apply wl_gyesB); (· exact rfl); (· exact rfl); (· simp [evb, kb, hN, Nat.reduceLT, Nat.reduceEqDiff, reduceIte, Int.reduceToNat, Int.reduceBEq, hf, bigb, sdb]); try simp only [evb, kb, hN, Nat.reduceLT, Nat.reduceEqDiff, reduceIte, Int.reduceToNat, Int.reduceBEq, hf, bigb]) | ((with_reducible apply wl_gnoB); (· exact rfl); (· exact rfl); (· simp [evb, kb, hN, Nat.reduceLT, Nat.reduceEqDiff, reduceIte, Int.reduceToNat, Int.reduceBEq, hf, bigb, sdb]); try simp only [evb, kb, hN, Nat.reduceLT, Nat.reduceEqDiff, reduceIte, Int.reduceToNat, Int.reduceBEq, hf, bigb]) | ((with_reducible apply wl_gnoU); (· exact rfl); (· exact rfl); (· simp [evb, kb, hN, Nat.reduceLT, Nat.reduceEqDiff, reduceIte, Int.reduceToNat, Int.reduceBEq, hf, bigb, sdb]); try simp only [evb, kb, hN, Nat.reduceLT, Nat.reduceEqDiff, reduceIte, Int.reduceToNat, Int.reduceBEq, hf, bigb])))
    refine wl_call (fun args w => Try.call67 args w) (by simp [evb, kb, hN, Nat.reduceLT, Nat.reduceEqDiff, reduceIte, Int.reduceToNat, Int.reduceBEq, h1]; exact fin _ (by simp [hf])) ?_
    rintro r w3 ho
    (repeat (first | ((first | (with_reducible refine wl_move ?_) | (with_reducible refine wl_assign ?_) | ((with_reducible refine wl_conv ?_ ?_ ?_ ?_); (· kernel_rfl); (· kernel_rfl)) | (with_reducible refine wl_add ?_ ?_) | (with_reducible refine wl_sub ?_ ?_) | (with_reducible refine wl_lss ?_ ?_) | (with_reducible refine wl_leq ?_ ?_) | (with_reducible refine wl_gtr ?_ ?_) | (with_reducible refine wl_geq ?_ ?_) | (with_reducible refine wl_eql ?_ ?_) | (with_reducible refine wl_neq ?_ ?_) | (with_reducible refine wl_not ?_ ?_) | (with_reducible refine wl_shr ?_ ?_ ?_) | (with_reducible refine wl_and127 ?_ ?_) | (with_reducible refine wl_or128 ?_ ?_ ?_) | ((with_reducible refine wl_len ?_ ?_ ?_); rotate_left 1; (· simp [evb, kb, hN, Nat.reduceLT, Nat.reduceEqDiff, reduceIte, Int.reduceToNat, Int.reduceBEq, sdb]); rotate_left 1; (· kernel_rfl)) | ((with_reducible refine wl_lenS ?_ ?_ ?_); rotate_left 1; (· simp [evb, kb, hN, Nat.reduceLT, Nat.reduceEqDiff, reduceIte, Int.reduceToNat, Int.reduceBEq, sdb]); rotate_left 1; (· kernel_rfl))) <;> (first | (with_reducible refine wl_id ?_; try simp only [evb, kb, hN, Nat.reduceLT, Nat.reduceEqDiff, reduceIte, Int.reduceToNat, Int.reduceBEq]) | (simp [evb, kb, hN, Nat.reduceLT, Nat.reduceEqDiff, reduceIte, Int.reduceToNat, Int.reduceBEq, sdb]; done) | (simp [evb, kb, hN, Nat.reduceLT, Nat.reduceEqDiff, reduceIte, Int.reduceToNat, Int.reduceBEq, sdb]; omega)))))
    refine wl_nil ?_; refine hK _ _ ?_; clear hK K
    refine wp_ret ⟨by simp [defers_put, hD], ?_⟩; simp only [evb, kb, hN, Nat.reduceLT, Nat.reduceEqDiff, reduceIte, Int.reduceToNat, Int.reduceBEq]
    exact ⟨ho.1.mono hc.size, hc.trans ho.2 fun _ _ h => h⟩
  · (repeat (first | ((first | (with_reducible refine wl_move ?_) | (with_reducible refine wl_assign ?_) | ((with_reducible refine wl_conv ?_ ?_ ?_ ?_); (· kernel_rfl); (· kernel_rfl)) | (with_reducible refine wl_add ?_ ?_) | (with_reducible refine wl_sub ?_ ?_) | (with_reducible refine wl_lss ?_ ?_) | (with_reducible refine wl_leq ?_ ?_) | (with_reducible refine wl_gtr ?_ ?_) | (with_reducible refine wl_geq ?_ ?_) | (with_reducible refine wl_eql ?_ ?_) | (with_reducible refine wl_neq ?_ ?_) | (with_reducible refine wl_not ?_ ?_) | (with_reducible refine wl_shr ?_ ?_ ?_) | (with_reducible refine wl_and127 ?_ ?_) | (with_reducible refine wl_or128 ?_ ?_ ?_) | ((with_reducible refine wl_len ?_ ?_ ?_); rotate_left 1; (· simp [evb, kb, hN, Nat.reduceLT, Nat.reduceEqDiff, reduceIte, Int.reduceToNat, Int.reduceBEq, h1, hf, bigb, sdb]); rotate_left 1; (· kernel_rfl)) | ((with_reducible refine wl_lenS ?_ ?_ ?_); rotate_left 1; (· simp [evb, kb, hN, Nat.reduceLT, Nat.reduceEqDiff, reduceIte, Int.reduceToNat, Int.reduceBEq, h1, hf, bigb, sdb]); rotate_left 1; (· kernel_rfl)) | (with_reducible refine wl_min ?_ ?_ ?_) | (with_reducible refine wl_max ?_ ?_ ?_) | (with_reducible refine wl_mul ?_ ?_) | ((with_reducible refine wl_pickT ?_ ?_); (· simp [evb, kb, hN, Nat.reduceLT, Nat.reduceEqDiff, reduceIte, Int.reduceToNat, Int.reduceBEq, h1, hf, bigb, sdb])) | ((with_reducible refine wl_pickF ?_ ?_); (· simp [evb, kb, hN, Nat.reduceLT, Nat.reduceEqDiff, reduceIte, Int.reduceToNat, Int.reduceBEq, h1, hf, bigb, sdb]))) <;> (first | (with_reducible refine wl_id ?_; try simp only [evb, kb, hN, Nat.reduceLT, Nat.reduceEqDiff, reduceIte, Int.reduceToNat, Int.reduceBEq, h1, hf, bigb]) | (simp [evb, kb, hN, Nat.reduceLT, Nat.reduceEqDiff, reduceIte, Int.reduceToNat, Int.reduceBEq, h1, hf, bigb, sdb]; done) | (simp [evb, kb, hN, Nat.reduceLT, Nat.reduceEqDiff, reduceIte, Int.reduceToNat, Int.reduceBEq, h1, hf, bigb, sdb]; omega))) | ((with_reducible apply wl_gyesB); (· exact rfl); (· exact rfl); (· simp [evb, kb, hN, Nat.reduceLT, Nat.reduceEqDiff, reduceIte, Int.reduceToNat, Int.reduceBEq, h1, hf, bigb, sdb]); try simp only [evb, kb, hN, Nat.reduceLT, Nat.reduceEqDiff, reduceIte, Int.reduceToNat, Int.reduceBEq, h1, hf, bigb]) | ((with_reducible apply wl_gnoB); (· exact rfl); (· exact rfl); (· simp [evb, kb, hN, Nat.reduceLT, Nat.reduceEqDiff, reduceIte, Int.reduceToNat, Int.reduceBEq, h1, hf, bigb, sdb]); try simp only [evb, kb, hN, Nat.reduceLT, Nat.reduceEqDiff, reduceIte, Int.reduceToNat, Int.reduceBEq, h1, hf, bigb]) | ((with_reducible apply wl_gnoU); (· exact rfl); (· exact rfl); (· simp [evb, kb, hN, Nat.reduceLT, Nat.reduceEqDiff, reduceIte, Int.reduceToNat, Int.reduceBEq, h1, hf, bigb, sdb]); try simp only [evb, kb, hN, Nat.reduceLT, Nat.reduceEqDiff, reduceIte, Int.reduceToNat, Int.reduceBEq, h1, hf, bigb])))
    refine wl_loadAgg (b := w.heap.size + 1) (o := 0) (n := 5) (by kernel_rfl) (by kernel_rfl) (by simp [evb, kb, hN, Nat.reduceLT, Nat.reduceEqDiff, reduceIte, Int.reduceToNat, Int.reduceBEq, sdb]) hb2 (by rw [hv.len]; omega) ?_
    rw [e5]
    (repeat (first | ((first | (with_reducible refine wl_move ?_) | (with_reducible refine wl_assign ?_) | ((with_reducible refine wl_conv ?_ ?_ ?_ ?_); (· kernel_rfl); (· kernel_rfl)) | (with_reducible refine wl_add ?_ ?_) | (with_reducible refine wl_sub ?_ ?_) | (with_reducible refine wl_lss ?_ ?_) | (with_reducible refine wl_leq ?_ ?_) | (with_reducible refine wl_gtr ?_ ?_) | (with_reducible refine wl_geq ?_ ?_) | (with_reducible refine wl_eql ?_ ?_) | (with_reducible refine wl_neq ?_ ?_) | (with_reducible refine wl_not ?_ ?_) | (with_reducible refine wl_shr ?_ ?_ ?_) | (with_reducible refine wl_and127 ?_ ?_) | (with_reducible refine wl_or128 ?_ ?_ ?_) | ((with_reducible refine wl_len ?_ ?_ ?_); rotate_left 1; (· simp [evb, kb, hN, Nat.reduceLT, Nat.reduceEqDiff, reduceIte, Int.reduceToNat, Int.reduceBEq, hf, bigb, sdb]); rotate_left 1; (· kernel_rfl)) | ((with_reducible refine wl_lenS ?_ ?_ ?_); rotate_left 1; (· simp [evb, kb, hN, Nat.reduceLT, Nat.reduceEqDiff, reduceIte, Int.reduceToNat, Int.reduceBEq, hf, bigb, sdb]); rotate_left 1; (· kernel_rfl)) | (with_reducible refine wl_min ?_ ?_ ?_) | (with_reducible refine wl_max ?_ ?_ ?_) | (with_reducible refine wl_mul ?_ ?_) | ((with_reducible refine wl_pickT ?_ ?_); (· simp [evb, kb, hN, Nat.reduceLT, Nat.reduceEqDiff, reduceIte, Int.reduceToNat, Int.reduceBEq, hf, bigb, sdb])) | ((with_reducible refine wl_pickF ?_ ?_); (· simp [evb, kb, hN, Nat.reduceLT, Nat.reduceEqDiff, reduceIte, Int.reduceToNat, Int.reduceBEq, hf, bigb, sdb]))) <;> (first | (with_reducible refine wl_id ?_; try simp only [evb, kb, hN, Nat.reduceLT, Nat.reduceEqDiff, reduceIte, Int.reduceToNat, Int.reduceBEq, hf, bigb]) | (simp [evb, kb, hN, Nat.reduceLT, Nat.reduceEqDiff, reduceIte, Int.reduceToNat, Int.reduceBEq, hf, bigb, sdb]; done) | (simp [evb, kb, hN, Nat.reduceLT, Nat.reduceEqDiff, reduceIte, Int.reduceToNat, Int.reduceBEq, hf, bigb, sdb]; omega))) | ((with_reducible apply wl_gyesB); (· exact rfl); (· exact rfl); (· simp [evb, kb, hN, Nat.reduceLT, Nat.reduceEqDiff, reduceIte, Int.reduceToNat, Int.reduceBEq, hf, bigb, sdb]); try simp only [evb, kb, hN, Nat.reduceLT, Nat.reduceEqDiff, reduceIte, Int.reduceToNat, Int.reduceBEq, hf, bigb]) | ((with_reducible apply wl_gnoB); (· exact rfl); (· exact rfl); (· simp [evb, kb, hN, Nat.reduceLT, Nat.reduceEqDiff, reduceIte, Int.reduceToNat, Int.reduceBEq, hf, bigb, sdb]); try simp only [evb, kb, hN, Nat.reduceLT, Nat.reduceEqDiff, reduceIte, Int.reduceToNat, Int.reduceBEq, hf, bigb]) | ((with_reducible apply wl_gnoU); (· exact rfl); (· exact rfl); (· simp [evb, kb, hN, Nat.reduceLT, Nat.reduceEqDiff, reduceIte, Int.reduceToNat, Int.reduceBEq, hf, bigb, sdb]); try simp only [evb, kb, hN, Nat.reduceLT, Nat.reduceEqDiff, reduceIte, Int.reduceToNat, Int.reduceBEq, hf, bigb])))
    refine wl_call (fun args w => Try.call67 args w) (by simp [evb, kb, hN, Nat.reduceLT, Nat.reduceEqDiff, reduceIte, Int.reduceToNat, Int.reduceBEq, h1]; exact fin _ (by simp [hf])) ?_
    rintro r w3 ho
    (repeat (first | ((first | (with_reducible refine wl_move ?_) | (with_reducible refine wl_assign ?_) | ((with_reducible refine wl_conv ?_ ?_ ?_ ?_); (· kernel_rfl); (· kernel_rfl)) | (with_reducible refine wl_add ?_ ?_) | (with_reducible refine wl_sub ?_ ?_) | (with_reducible refine wl_lss ?_ ?_) | (with_reducible refine wl_leq ?_ ?_) | (with_reducible refine wl_gtr ?_ ?_) | (with_reducible refine wl_geq ?_ ?_) | (with_reducible refine wl_eql ?_ ?_) | (with_reducible refine wl_neq ?_ ?_) | (with_reducible refine wl_not ?_ ?_) | (with_reducible refine wl_shr ?_ ?_ ?_) | (with_reducible refine wl_and127 ?_ ?_) | (with_reducible refine wl_or128 ?_ ?_ ?_) | ((with_reducible refine wl_len ?_ ?_ ?_); rotate_left 1; (· simp [evb, kb, hN, Nat.reduceLT, Nat.reduceEqDiff, reduceIte, Int.reduceToNat, Int.reduceBEq, sdb]); rotate_left 1; (· kernel_rfl)) | ((with_reducible refine wl_lenS ?_ ?_ ?_); rotate_left 1; (· simp [evb, kb, hN, Nat.reduceLT, Nat.reduceEqDiff, reduceIte, Int.reduceToNat, Int.reduceBEq, sdb]); rotate_left 1; (· kernel_rfl))) <;> (first | (with_reducible refine wl_id ?_; try simp only [evb, kb, hN, Nat.reduceLT, Nat.reduceEqDiff, reduceIte, Int.reduceToNat, Int.reduceBEq]) | (simp [evb, kb, hN, Nat.reduceLT, Nat.reduceEqDiff, reduceIte, Int.reduceToNat, Int.reduceBEq, sdb]; done) | (simp [evb, kb, hN, Nat.reduceLT, Nat.reduceEqDiff, reduceIte, Int.reduceToNat, Int.reduceBEq, sdb]; omega)))))
    refine wl_nil ?_; refine hK _ _ ?_; clear hK K
    refine wp_ret ⟨by simp [defers_put, hD], ?_⟩; simp only [evb, kb, hN, Nat.reduceLT, Nat.reduceEqDiff, reduceIte, Int.reduceToNat, Int.reduceBEq]
    exact ⟨ho.1.mono hc.size, hc.trans ho.2 fun _ _ h => h⟩

/-! ### Schemas are laid -/

/-- A field's eight cells. -/
def fldCells (f : Fld) (sv : Value) : List Value := [kV f.kind, .int .i64 f.from_, .int .i64 f.to, .int .i64 f.null, .int .i64 f.tag, .int .i64 f.dflt, kV f.of, sv]
theorem fldCells_is {w : World} {G : Nat → Prop} (f : Fld) {sv : Value} (h : SchS w G f.sub sv) : SchF w G f (fldCells f sv) := by
  obtain ⟨oa, cap, rfl, h⟩ := h
  cases f
  unfold SchF
  exact ⟨oa, cap, rfl, h⟩
theorem schS_nil (w : World) (G : Nat → Prop) (oa : Option Addr) (cap : Nat) : SchS w G [] (.slice oa 0 cap) := ⟨oa, cap, rfl, .inl rfl⟩

theorem schL_of {w : World} {G : Nat → Prop} : ∀ {fs : List Fld} {css : List (List Value)}, All2 (SchF w G) fs css → SchL w G fs css.flatten
  | _, _, .nil => by unfold SchL; trivial
  | _, _, .cons (a := f) (b := c) (l := r) (m := m) h1 h2 => by
    have hl := h1.len
    unfold SchL
    rw [List.flatten_cons, List.take_left' hl, List.drop_left' hl]
    exact ⟨h1, schL_of h2⟩

/-- What a function that lays a schema does. -/
def LaysS (fn : FuncId) (fs : List Fld) : Prop := ∀ w : World, CallsR Try.prog fn #[] w fun v w' => SchS w' (fun g => w.heap.size ≤ g) fs v ∧ Chg (fun _ => False) w w'
def LaysM (fn : FuncId) (fs : List Fld) (flex : Int) : Prop := ∀ w : World, CallsR Try.prog fn #[] w fun v w' => ∃ sv, v = aggOf [sv, .int .i64 flex] ∧ SchS w' (fun g => w.heap.size ≤ g) fs sv ∧ Chg (fun _ => False) w w'

theorem SchS.later {w0 w1 w2 wn : World} {fs : List Fld} {v : Value} (h : SchS w2 (fun g => w1.heap.size ≤ g) fs v) (hc : Chg (fun _ => False) w2 wn) (hs : w0.heap.size ≤ w1.heap.size) : SchS wn (fun g => w0.heap.size ≤ g) fs v :=
  h.stay ⟨fun k hk hg => ⟨hc.block k hk (fun h => h), Nat.le_trans hs hg⟩⟩

/-- The literal slice of fields. -/
theorem wl_fields {ops : Array Oper} {Q : Exit → Act → World → Prop} {a : Act} {w w0 : World} {rest : List Oper} {d : Option Nat} {ty : TypeId} {pos : String} {af : Array Edge} {n : Nat} {parts : Array (Nat × Operand)}
    (fs : List Fld) (css : List (List Value)) (hn : n = css.length) (hp : parts.map (fun x => (x.1, a.eval x.2)) = ((css.map aggOf).zipIdx.map fun x => (x.2, x.1)).toArray) (hs : css.length * 8 ≤ 16777216)
    (hc : Chg (fun _ => False) w0 w) (hall : All2 (SchF w (fun g => w0.heap.size ≤ g)) fs css) 
    (h : ∀ v w', Chg (fun _ => False) w0 w' → Chg (fun _ => False) w w' → SchS w' (fun g => w0.heap.size ≤ g) fs v → v = .slice (some ⟨w.heap.size, 0, none⟩) fs.length fs.length → WL Try.prog ops Q rest (a.put d v) w') :
    WL Try.prog ops Q (⟨d, .buildSlice 23 n parts, ty, pos, af, none⟩ :: rest) a w := by
  subst hn
  have hl : ∀ c ∈ css, c.length = 8 := by
    intro c hm
    clear hp hs h
    induction hall with
    | nil => cases hm
    | cons h1 _ ih =>
      rcases List.mem_cons.1 hm with rfl | hm
      · exact h1.len
      · exact ih hm
  have hlen := hall.length
  have h1 : ∀ v ∈ css.map aggOf, v.cells.size = 8 := by
    intro v hv
    obtain ⟨c, hc, rfl⟩ := List.mem_map.1 hv
    have := hl c hc
    simpa [aggOf, Value.cells] using this
  have hr := run_buildSlice (P := Try.prog) (w := w) (t := 23) (e := 43) (sz := 8) rfl (by kernel_rfl) (fun w => Try.zeroValue43 w) (css.map aggOf) h1 (by simpa using hs) (by omega)
  rw [List.length_map, ← hp] at hr
  have e : (css.map aggOf).flatMap (fun v => v.cells.toList) = css.flatten := by
    rw [List.flatMap_map, List.flatMap_def]
    congr 1
    rw [List.map_congr_left (g := id) (fun c _ => aggOf_cells c)]
    simp
  rw [e] at hr
  have hc2 : Chg (fun _ => False) w (w.alloc (.cells css.flatten.toArray 43)) := Chg.alloc _ _ _
  have hb : Blk (w.alloc (.cells css.flatten.toArray 43)) w.heap.size css.flatten 43 := Blk.new _ _ _
  refine wl_val rfl (by simp only [execOp, Sem.run_bind, hr]; rfl) (h _ _ (hc.trans hc2 fun _ _ h => h) hc2 ?_ (by rw [hlen]))
  refine ⟨_, _, by rw [hlen], .inr ⟨_, _, _, rfl, hc.size, hb, ?_⟩⟩
  exact SchL.stay (Stay.none hc2) (schL_of hall)

end Go.Proofs.Ytkhmglikdlgfpaa
