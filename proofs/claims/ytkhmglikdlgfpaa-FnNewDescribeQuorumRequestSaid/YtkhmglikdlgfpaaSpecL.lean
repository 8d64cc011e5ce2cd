import Derived.Test.YtkhmglikdlgfpaaSpecK
import Derived.Test.YtkhmglikdlgfpaaRowT
/-
The reference: what a new part says.
-/
namespace Go.Proofs.Ytkhmglikdlgfpaa
set_option linter.all false
open Go.RowKit
set_option maxRecDepth 10000
set_option maxHeartbeats 2000000

theorem trL_of {w : World} {G : Nat → Prop} : ∀ {l : List Tr} {css : List (List Value)} (r : List Value), All2 (TrC w G) l css → TrL w G l (css.flatten ++ r)
  | _, _, r, .nil => by unfold TrL; trivial
  | _, _, r, .cons (a := f) (b := c) (l := l) (m := m) h1 h2 => by
    have hl := h1.len
    unfold TrL
    rw [List.flatten_cons, List.append_assoc, List.take_left' hl, List.drop_left' hl]
    exact ⟨h1, trL_of r h2⟩
theorem All2.snoc {α β : Type} {R : α → β → Prop} : ∀ {l : List α} {m : List β} {a : α} {b : β}, All2 R l m → R a b → All2 R (l ++ [a]) (m ++ [b])
  | _, _, _, _, .nil, h => .cons h .nil
  | _, _, _, _, .cons x y, h => .cons x (y.snoc h)

theorem sDefL_len : ∀ fs : List Fld, (sDefL fs).length = fs.length
  | [] => rfl
  | f :: r => by simp [sDefL, sDefL_len r]
theorem sDefL_get : ∀ (fs : List Fld) (i : Nat) (f : Fld), fs[i]? = some f → (sDefL fs)[i]? = some (sDefF f)
  | [], i, f, h => by simp at h
  | g :: r, 0, f, h => by simp at h; subst h; rfl
  | g :: r, i + 1, f, h => by
    have := sDefL_get r i f (by simpa using h)
    simpa [sDefL] using this
theorem sDefL_step (fs : List Fld) (i : Nat) (f : Fld) (h : fs[i]? = some f) : (sDefL fs).take (i + 1) = (sDefL fs).take i ++ [sDefF f] := by
  rw [List.take_add_one, sDefL_get fs i f h]; rfl

/-- The list that grows, as a list of trees. -/
theorem trS_of {w : World} {base : Nat} {v : Value} {l : List Tr} {css : List (List Value)} {G : Nat → Prop} {n : Nat} (h : w.ownsRow base 35 5 v n css.flatten) (hn : n = l.length) (ha : All2 (TrC w G) l css) (hg : ∀ k, v.ownBlock = some k → G k) : TrS w G l v := by
  subst hn
  obtain ⟨oa, cap, rfl, hc, hr⟩ := ownsRow_slice h
  refine ⟨oa, cap, rfl, hc, ?_⟩
  rcases hr with h0 | ⟨g, cs, rfl, hb, hbk, htk, hob⟩
  · exact .inl (List.eq_nil_of_length_eq_zero h0)
  · refine .inr ⟨g, 0, cs, _, rfl, hg g hob, hbk, ?_⟩
    rw [List.drop_zero, ← List.take_append_drop (l.length * 5) cs, htk]
    exact trL_of _ ha

def defCells (f : Fld) (v : Value) : List Value := [.int .i64 f.dflt, .slice none 0 0, .bool (decide (0 ≤ f.null)), v, .slice none 0 0]

theorem def_N : ∀ (N : Nat) (fs : List Fld), SizeOf.sizeOf fs < N → okL fs = true → fs.length ≤ 1073741824 → ∀ (w : World) (G : Nat → Prop) (oa : Option Addr) (cap : Nat), SchS w G fs (.slice oa fs.length cap) →
    CallsR Try.prog 23 #[.slice oa fs.length cap] w fun r w' => ∃ ts, r = aggOf ts ∧ TrC w' (fun g => w.heap.size ≤ g) (sDef fs) ts ∧ Chg (fun _ => False) w w'
  | 0, _, h, _, _, _, _, _, _, _ => by omega
  | N + 1, fs, hN, hok, hlen, w, G, oa, cap, hfs => by
    refine callsR_ofC Try.func23 rfl rfl (by kernel_rfl) Try.ntmps23 (by simp) ?_
    intro a hN' hD ha
    have h0 : get a 0 = .slice oa fs.length cap := ha 0 _ rfl
    have hN := hN'
    clear hN'
    refine wp_seq_k fun K hK => ?_; refine wp_reg ?_
    refine wl_allocA (z := aggOf zTree) (fun w => Try.zeroValue35 w) fun w1 hc1 hb1 hs1 => ?_
    refine wl_nil ?_; refine hK _ _ ?_; clear hK K
    refine wp_seq_k fun K hK => ?_; refine wp_reg ?_
    refine wl_allocA (z := aggOf zTree) (fun w => Try.zeroValue35 w) fun w2 hc2 hb2 hs2 => ?_
    replace hb1 := hb1.chg hc2 (fun h => h)
    have hc := hc1.trans hc2 (fun _ _ h => h)
    rw [hs1] at hb2 ⊢
    refine wl_nil ?_; refine hK _ _ ?_; clear hK K
    refine wp_seq_k fun K0 hK0 => ?_; refine wp_seq_k fun K hK => ?_; refine wp_reg ?_
    (repeat (first | ((first | (with_reducible refine wl_move ?_) | (with_reducible refine wl_assign ?_) | ((with_reducible refine wl_conv ?_ ?_ ?_ ?_); (· kernel_rfl); (· kernel_rfl)) | (with_reducible refine wl_add ?_ ?_) | (with_reducible refine wl_sub ?_ ?_) | (with_reducible refine wl_lss ?_ ?_) | (with_reducible refine wl_leq ?_ ?_) | (with_reducible refine wl_gtr ?_ ?_) | (with_reducible refine wl_geq ?_ ?_) | (with_reducible refine wl_eql ?_ ?_) | (with_reducible refine wl_neq ?_ ?_) | (with_reducible refine wl_not ?_ ?_) | (with_reducible refine wl_shr ?_ ?_ ?_) | (with_reducible refine wl_and127 ?_ ?_) | (with_reducible refine wl_or128 ?_ ?_ ?_) | ((with_reducible refine wl_len ?_ ?_ ?_); rotate_left 1; (· simp [evb, kb, hN, Nat.reduceLT, Nat.reduceEqDiff, reduceIte, Int.reduceToNat, Int.reduceBEq, h0, sdb]); rotate_left 1; (· kernel_rfl)) | ((with_reducible refine wl_lenS ?_ ?_ ?_); rotate_left 1; (· simp [evb, kb, hN, Nat.reduceLT, Nat.reduceEqDiff, reduceIte, Int.reduceToNat, Int.reduceBEq, h0, sdb]); rotate_left 1; (· kernel_rfl))) <;> (first | (with_reducible refine wl_id ?_; try simp only [evb, kb, hN, Nat.reduceLT, Nat.reduceEqDiff, reduceIte, Int.reduceToNat, Int.reduceBEq, h0]) | (simp [evb, kb, hN, Nat.reduceLT, Nat.reduceEqDiff, reduceIte, Int.reduceToNat, Int.reduceBEq, h0, sdb]; done) | (simp [evb, kb, hN, Nat.reduceLT, Nat.reduceEqDiff, reduceIte, Int.reduceToNat, Int.reduceBEq, h0, sdb]; omega)))))
    refine wl_nil ?_; refine hK _ _ ?_; clear hK K
    refine wp_range (n := fs.length) (fun i a' w' => ∃ ov css, a'.tmps.size = 35 ∧ a'.defers = [] ∧ get a' 2 = .pointer (some ⟨w.heap.size, 0, none⟩) ∧ get a' 3 = .pointer (some ⟨w.heap.size + 1, 0, none⟩) ∧ get a' 7 = .slice oa fs.length cap ∧
        Blk w' w.heap.size zTree 35 ∧ Blk w' (w.heap.size + 1) [.int .i64 0, .slice none 0 0, .bool false, ov, .slice none 0 0] 35 ∧ w'.ownsRow w2.heap.size 35 5 ov i css.flatten ∧
        All2 (TrC w' (fun g => w2.heap.size ≤ g ∧ ov.ownBlock ≠ some g)) ((sDefL fs).take i) css ∧ Chg (fun k => w.heap.size ≤ k) w w' ∧ w2.heap.size ≤ w'.heap.size) 35 (by omega)
      (by simp only [evb, kb, hN, Nat.reduceLT, Nat.reduceEqDiff, reduceIte, Int.reduceToNat, Int.reduceBEq]) (by simp only [evb, kb, hN, Nat.reduceLT, Nat.reduceEqDiff, reduceIte, Int.reduceToNat, Int.reduceBEq]) ⟨.slice none 0 0, [], by simp only [evb, kb, hN, Nat.reduceLT, Nat.reduceEqDiff, reduceIte, Int.reduceToNat, Int.reduceBEq], by simp [defers_put, hD], by simp only [evb, kb, hN, Nat.reduceLT, Nat.reduceEqDiff, reduceIte, Int.reduceToNat, Int.reduceBEq], by simp only [evb, kb, hN, Nat.reduceLT, Nat.reduceEqDiff, reduceIte, Int.reduceToNat, Int.reduceBEq], by simp only [evb, kb, hN, Nat.reduceLT, Nat.reduceEqDiff, reduceIte, Int.reduceToNat, Int.reduceBEq, h0], hb1, hb2, World.ownsRow_nil _ _ _ _, by rw [List.take_zero]; exact .nil, hc.mono fun _ _ h => h.elim, Nat.le_refl _⟩ ?_ ?_ (by decide) ?_ ?_
    · rintro i a w ⟨ov, css, h, _⟩; exact h
    · rintro i a w t v ht ⟨ov, css, k1, k2, k3, k4, k5, k6⟩
      rcases ht with rfl | rfl | rfl <;> exact ⟨ov, css, by rw [size_put]; exact k1, by rw [defers_put]; exact k2, by rw [get_put_ne (by decide)]; exact k3, by rw [get_put_ne (by decide)]; exact k4, by rw [get_put_ne (by decide)]; exact k5, k6⟩
    · clear hN hD h0
      rintro i a1 w3 hi ⟨ov, css, hN, hD, g2, g3, g7, hB1, hB2, hrow, hall, hch, hsz⟩ g8 g9
      have hf : fs[i]? = some fs[i] := by simp [hi]
      have hmem : fs[i] ∈ fs := List.getElem_mem hi
      obtain ⟨b, fc, T, rfl, _, hG, hbk, hfc, hl⟩ := hfs.get hf
      have hstep := sDefL_step fs i _ hf
      have hokf := okL.mem hok _ hmem
      have hszf := List.sizeOf_lt_of_mem hmem
      generalize fs[i] = f at hf hmem hfc hstep hokf hszf
      obtain ⟨_, c0, c1, c2, c3, c4, c5, c6, x7, c7, hx7⟩ := hfc.cells
      have hcw : Chg (fun _ => False) w w3 := chg_own hch
      have hbk3 := hbk.chg hcw (fun h => h)
      have hlt := hrow.lt
      refine wp_seq_k fun K1 hK1 => ?_; refine wp_reg ?_
      refine wl_indexAddr (b := b) (o := 0) (k := .i64) (i := i) (n := 8) (len := fs.length) (cap := cap) (by kernel_rfl) (by simp [evb, kb, hN, Nat.reduceLT, Nat.reduceEqDiff, reduceIte, Int.reduceToNat, Int.reduceBEq, g7, sdb]) (by simp [evb, kb, hN, Nat.reduceLT, Nat.reduceEqDiff, reduceIte, Int.reduceToNat, Int.reduceBEq, g9, sdb]) hi ?_
      refine wl_loadAgg (b := b) (o := 0 + i * 8) (n := 8) (by kernel_rfl) (by kernel_rfl) (by simp [evb, kb, hN, Nat.reduceLT, Nat.reduceEqDiff, reduceIte, Int.reduceToNat, Int.reduceBEq, sdb]) hbk3 (by omega) ?_
      rw [Nat.zero_add]
      refine wl_allocA (z := aggOf zFld) (fun w => Try.zeroValue43 w) fun w4 hc4 hb4 hs4 => ?_
      refine wl_storeAll (b := w3.heap.size) (n := 8) (l' := ((fc.drop (i * 8)).take 8)) (by kernel_rfl) (by simp [evb, kb, hN, Nat.reduceLT, Nat.reduceEqDiff, reduceIte, Int.reduceToNat, Int.reduceBEq, sdb]) (by simp [evb, kb, hN, Nat.reduceLT, Nat.reduceEqDiff, reduceIte, Int.reduceToNat, Int.reduceBEq, sdb]; rfl) hb4 hfc.len hfc.one rfl fun w5 hb5 hc5 => ?_
      have hk5 : Chg (fun _ => False) w3 w5 := hc4.trans hc5 fun n hn h => by omega
      refine wl_nil ?_
      refine hK1 _ _ ?_; try clear hK1 K1
      refine wp_seq_k fun K1 hK1 => ?_; refine wp_reg ?_
      with_reducible refine wl_fieldAt (b := w3.heap.size) (off := 5) (n := 1) ?_ ?_ ?_; (· kernel_rfl); (· simp [evb, kb, hN, Nat.reduceLT, Nat.reduceEqDiff, reduceIte, Int.reduceToNat, Int.reduceBEq, sdb])
      with_reducible refine wl_load (b := w3.heap.size) (o := 5) ?_ ?_ hb5 c5 ?_; (· kernel_rfl); (· simp [evb, kb, hN, Nat.reduceLT, Nat.reduceEqDiff, reduceIte, Int.reduceToNat, Int.reduceBEq, sdb])
      with_reducible refine wl_fieldAt (b := w3.heap.size) (off := 3) (n := 1) ?_ ?_ ?_; (· kernel_rfl); (· simp [evb, kb, hN, Nat.reduceLT, Nat.reduceEqDiff, reduceIte, Int.reduceToNat, Int.reduceBEq, sdb])
      with_reducible refine wl_load (b := w3.heap.size) (o := 3) ?_ ?_ hb5 c3 ?_; (· kernel_rfl); (· simp [evb, kb, hN, Nat.reduceLT, Nat.reduceEqDiff, reduceIte, Int.reduceToNat, Int.reduceBEq, sdb])
      (repeat (first | ((first | (with_reducible refine wl_move ?_) | (with_reducible refine wl_assign ?_) | ((with_reducible refine wl_conv ?_ ?_ ?_ ?_); (· kernel_rfl); (· kernel_rfl)) | (with_reducible refine wl_add ?_ ?_) | (with_reducible refine wl_sub ?_ ?_) | (with_reducible refine wl_lss ?_ ?_) | (with_reducible refine wl_leq ?_ ?_) | (with_reducible refine wl_gtr ?_ ?_) | (with_reducible refine wl_geq ?_ ?_) | (with_reducible refine wl_eql ?_ ?_) | (with_reducible refine wl_neq ?_ ?_) | (with_reducible refine wl_not ?_ ?_) | (with_reducible refine wl_shr ?_ ?_ ?_) | (with_reducible refine wl_and127 ?_ ?_) | (with_reducible refine wl_or128 ?_ ?_ ?_) | ((with_reducible refine wl_len ?_ ?_ ?_); rotate_left 1; (· simp [evb, kb, hN, Nat.reduceLT, Nat.reduceEqDiff, reduceIte, Int.reduceToNat, Int.reduceBEq, sdb]); rotate_left 1; (· kernel_rfl)) | ((with_reducible refine wl_lenS ?_ ?_ ?_); rotate_left 1; (· simp [evb, kb, hN, Nat.reduceLT, Nat.reduceEqDiff, reduceIte, Int.reduceToNat, Int.reduceBEq, sdb]); rotate_left 1; (· kernel_rfl))) <;> (first | (with_reducible refine wl_id ?_; try simp only [evb, kb, hN, Nat.reduceLT, Nat.reduceEqDiff, reduceIte, Int.reduceToNat, Int.reduceBEq]) | (simp [evb, kb, hN, Nat.reduceLT, Nat.reduceEqDiff, reduceIte, Int.reduceToNat, Int.reduceBEq, sdb]; done) | (simp [evb, kb, hN, Nat.reduceLT, Nat.reduceEqDiff, reduceIte, Int.reduceToNat, Int.reduceBEq, sdb]; omega)))))
      refine wl_build (l := defCells f (.slice none 0 0)) (by simp only [List.map_toArray, List.map_cons, List.map_nil, evb, kb, hN, Nat.reduceLT, Nat.reduceEqDiff, reduceIte, Int.reduceToNat, Int.reduceBEq]; kernel_rfl) ?_
      refine wl_allocA (z := aggOf zTree) (fun w => Try.zeroValue35 w) fun w6 hc6 hb6 hs6 => ?_
      have h5s : w3.heap.size + 1 ≤ w5.heap.size := by have := hb5.lt; omega
      refine wl_storeAll (b := w5.heap.size) (n := 5) (l' := defCells f (.slice none 0 0)) (by kernel_rfl) (by simp [evb, kb, hN, Nat.reduceLT, Nat.reduceEqDiff, reduceIte, Int.reduceToNat, Int.reduceBEq, sdb]) (by simp [evb, kb, hN, Nat.reduceLT, Nat.reduceEqDiff, reduceIte, Int.reduceToNat, Int.reduceBEq, sdb]) hb6 rfl (by intro y hy; simp only [defCells, List.mem_cons, List.not_mem_nil, or_false] at hy; rcases hy with rfl | rfl | rfl | rfl | rfl <;> rfl) rfl fun w7 hb7 hc7 => ?_
      have hk7 : Chg (fun _ => False) w3 w7 := (hk5.trans hc6 fun _ _ h => h).trans hc7 fun n hn h => by omega
      refine wl_nil ?_
      refine hK1 _ _ ?_; try clear hK1 K1
      have hcw7 : Chg (fun _ => False) w w7 := hcw.trans hk7 fun _ _ h => h
      have h7s := hk7.size
      have h2s : w2.heap.size = w.heap.size + 2 := by omega
      refine wp_seq_k fun K2 hK2 => ?_
      have rest : ∀ (a' : Act) (w8 : World) (lv : List Tr) (v : Value), a'.tmps.size = 35 → a'.defers = [] → get a' 2 = .pointer (some ⟨w.heap.size, 0, none⟩) → get a' 3 = .pointer (some ⟨w.heap.size + 1, 0, none⟩) → get a' 6 = .pointer (some ⟨w5.heap.size, 0, none⟩) → get a' 7 = .slice (some ⟨b, 0, none⟩) fs.length cap →
          get a' 8 = .int .i64 fs.length → get a' 9 = .int .i64 i → Chg (fun k => k = w5.heap.size) w7 w8 → Blk w8 w5.heap.size (defCells f v) 35 → TrS w8 (fun g => w2.heap.size ≤ g ∧ ov.ownBlock ≠ some g) lv v → sDefF f = dfNode f lv → K2 a' w8 := by
        clear hN hD g2 g3 g7 g8 g9
        intro a' w8 lv v hN hD g2 g3 g6 g7 g8 g9 hk8 hb8 hts heq
        refine hK2 _ _ ?_; try clear hK2 K2
        have hk38 : Chg (fun k => False) w3 w8 := hk7.trans hk8 fun n hn h => by omega
        have hB1' := hB1.chg hk38 fun h => h
        have hB2' := hB2.chg hk38 fun h => h
        have hrow' := ownsRow_chg hrow hk38 fun _ _ h => h
        have h8s := hk38.size
        have hcell : TrC w8 (fun g => w2.heap.size ≤ g ∧ ov.ownBlock ≠ some g) (sDefF f) (defCells f v) := by
          obtain ⟨ol, cl, rfl, hcl, hel⟩ := hts
          rw [heq]
          unfold dfNode TrC
          have hdf : IntKind.i64.wrap f.dflt = f.dflt := by
            have h1 := hokf
            cases f
            unfold okF at h1
            simp only [Bool.and_eq_true, decide_eq_true_eq] at h1
            exact i64_id _ h1.2
          exact ⟨none, 0, ol, cl, _, rfl, hdf, Nat.le_refl _, hcl, .inl rfl, hel, none, 0, rfl, Nat.le_refl _, .inl rfl⟩
        have hall' : All2 (TrC w8 (fun g => w2.heap.size ≤ g ∧ ov.ownBlock ≠ some g)) ((sDefL fs).take (i + 1)) (css ++ [defCells f v]) := by
          rw [hstep]
          exact (hall.imp fun _ _ h => h.stay (Stay.none hk38)).snoc hcell
        refine wp_reg ?_
        with_reducible refine wl_fieldAt (b := w.heap.size + 1) (off := 3) (n := 1) ?_ ?_ ?_
        · kernel_rfl
        · simp [evb, kb, hN, Nat.reduceLT, Nat.reduceEqDiff, reduceIte, Int.reduceToNat, Int.reduceBEq, g3, sdb]
        with_reducible refine wl_load (b := w.heap.size + 1) (o := 3) ?_ ?_ hB2' rfl ?_; (· kernel_rfl); (· simp [evb, kb, hN, Nat.reduceLT, Nat.reduceEqDiff, reduceIte, Int.reduceToNat, Int.reduceBEq, sdb])
        refine wl_loadAgg (b := w5.heap.size) (o := 0) (n := 5) (by kernel_rfl) (by kernel_rfl) (by simp [evb, kb, hN, Nat.reduceLT, Nat.reduceEqDiff, reduceIte, Int.reduceToNat, Int.reduceBEq, g6, sdb]) hb8 (Nat.le_refl _) ?_
        have e5 : ((defCells f v).drop 0).take 5 = defCells f v := rfl
        rw [e5]
        refine wl_append1 (e := 35) (sz := 5) (bytes := 88) (base := w2.heap.size) (v := ov) (n := i) (xs := css.flatten) (cs := defCells f v) (by kernel_rfl) (by omega) (by omega) ⟨_, fun w => Try.zeroValue35 w⟩ (by simp only [evb, kb, hN, Nat.reduceLT, Nat.reduceEqDiff, reduceIte, Int.reduceToNat, Int.reduceBEq]) (by simp only [evb, kb, hN, Nat.reduceLT, Nat.reduceEqDiff, reduceIte, Int.reduceToNat, Int.reduceBEq]) (by simp only [evb, kb, hN, Nat.reduceLT, Nat.reduceEqDiff, reduceIte, Int.reduceToNat, Int.reduceBEq]) rfl hcell.one hrow' (by omega) (by omega) (by omega) ?_
        intro u v' w9 happ
        (repeat (first | ((first | (with_reducible refine wl_move ?_) | (with_reducible refine wl_assign ?_) | ((with_reducible refine wl_conv ?_ ?_ ?_ ?_); (· kernel_rfl); (· kernel_rfl)) | (with_reducible refine wl_add ?_ ?_) | (with_reducible refine wl_sub ?_ ?_) | (with_reducible refine wl_lss ?_ ?_) | (with_reducible refine wl_leq ?_ ?_) | (with_reducible refine wl_gtr ?_ ?_) | (with_reducible refine wl_geq ?_ ?_) | (with_reducible refine wl_eql ?_ ?_) | (with_reducible refine wl_neq ?_ ?_) | (with_reducible refine wl_not ?_ ?_) | (with_reducible refine wl_shr ?_ ?_ ?_) | (with_reducible refine wl_and127 ?_ ?_) | (with_reducible refine wl_or128 ?_ ?_ ?_) | ((with_reducible refine wl_len ?_ ?_ ?_); rotate_left 1; (· simp [evb, kb, hN, Nat.reduceLT, Nat.reduceEqDiff, reduceIte, Int.reduceToNat, Int.reduceBEq, g3, sdb]); rotate_left 1; (· kernel_rfl)) | ((with_reducible refine wl_lenS ?_ ?_ ?_); rotate_left 1; (· simp [evb, kb, hN, Nat.reduceLT, Nat.reduceEqDiff, reduceIte, Int.reduceToNat, Int.reduceBEq, g3, sdb]); rotate_left 1; (· kernel_rfl))) <;> (first | (with_reducible refine wl_id ?_; try simp only [evb, kb, hN, Nat.reduceLT, Nat.reduceEqDiff, reduceIte, Int.reduceToNat, Int.reduceBEq, g3]) | (simp [evb, kb, hN, Nat.reduceLT, Nat.reduceEqDiff, reduceIte, Int.reduceToNat, Int.reduceBEq, g3, sdb]; done) | (simp [evb, kb, hN, Nat.reduceLT, Nat.reduceEqDiff, reduceIte, Int.reduceToNat, Int.reduceBEq, g3, sdb]; omega)))))
        with_reducible refine wl_fieldAt (b := w.heap.size + 1) (off := 3) (n := 1) ?_ ?_ ?_
        · kernel_rfl
        · simp [evb, kb, hN, Nat.reduceLT, Nat.reduceEqDiff, reduceIte, Int.reduceToNat, Int.reduceBEq, g3, sdb]
        have hblt := hB2'.lt
        have hovlt : ∀ k, ov.ownBlock = some k → w2.heap.size ≤ k ∧ k < w3.heap.size := hlt
        have hb9 := hB2'.chg happ.chg (fun h => by have := hovlt _ h; omega)
        have hB19 := hB1'.chg happ.chg (fun h => by have := hovlt _ h; omega)
        have hone : v'.cells = #[v'] := by obtain ⟨oa', cap', rfl, _⟩ := ownsRow_slice happ.own; rfl
        have hone2 : v'.oneCell' = true := by obtain ⟨oa', cap', rfl, _⟩ := ownsRow_slice happ.own; rfl
        refine wl_store (b := w.heap.size + 1) (o := 3) (n := 1) (v := v') (by kernel_rfl) (by simp [evb, kb, hN, Nat.reduceLT, Nat.reduceEqDiff, reduceIte, Int.reduceToNat, Int.reduceBEq, sdb]) (by simp [evb, kb, hN, Nat.reduceLT, Nat.reduceEqDiff, reduceIte, Int.reduceToNat, Int.reduceBEq, sdb]) hb9 (by rw [hone]; rfl) (by intro y hy; rw [hone] at hy; simp only [List.mem_singleton] at hy; subst hy; exact hone2) (by simp) fun w10 hb10 hc10 => ?_
        rw [hone] at hb10
        have hv'lt := happ.own.lt
        have hst : Stay w8 w10 (fun g => w2.heap.size ≤ g ∧ ov.ownBlock ≠ some g) (fun g => w2.heap.size ≤ g ∧ v'.ownBlock ≠ some g) := ⟨fun k hk hg => ⟨(hc10.block k (Nat.lt_of_lt_of_le hk happ.chg.size) (by omega)).trans (happ.chg.block k hk hg.2), hg.1, by
          rcases happ.blk with h | ⟨k', h, h'⟩
          · rw [h]; exact hg.2
          · rw [h]; simp only [ne_eq, Option.some.injEq]; omega⟩⟩
        refine wl_nil ⟨⟨v', css ++ [defCells f v], by simp only [evb, kb, hN, Nat.reduceLT, Nat.reduceEqDiff, reduceIte, Int.reduceToNat, Int.reduceBEq], by simp [defers_put, hD], by simp only [evb, kb, hN, Nat.reduceLT, Nat.reduceEqDiff, reduceIte, Int.reduceToNat, Int.reduceBEq, g2], by simp only [evb, kb, hN, Nat.reduceLT, Nat.reduceEqDiff, reduceIte, Int.reduceToNat, Int.reduceBEq, g3], by simp only [evb, kb, hN, Nat.reduceLT, Nat.reduceEqDiff, reduceIte, Int.reduceToNat, Int.reduceBEq, g7], hB19.chg hc10 (by omega), hb10, ?_, hall'.imp fun _ _ h => h.stay hst, ?_, ?_⟩, by simp only [evb, kb, hN, Nat.reduceLT, Nat.reduceEqDiff, reduceIte, Int.reduceToNat, Int.reduceBEq, g8], by simp only [evb, kb, hN, Nat.reduceLT, Nat.reduceEqDiff, reduceIte, Int.reduceToNat, Int.reduceBEq, g9]⟩
        · rw [List.flatten_append]
          simp only [List.flatten_cons, List.flatten_nil, List.append_nil]
          exact ownsRow_chg happ.own hc10 fun k hk e => by have := hv'lt k hk; omega
        · have h38 : Chg (fun k => w.heap.size ≤ k) w w8 := hch.trans hk38 fun _ _ h => h.elim
          exact (h38.trans happ.chg fun n hn h => by have := hovlt _ h; omega).trans hc10 fun n hn h => by omega
        · exact Nat.le_trans (Nat.le_trans hsz h8s) (Nat.le_trans happ.chg.size hc10.size)
      have hb57 : Blk w7 w3.heap.size ((fc.drop (i * 8)).take 8) 43 := (hb5.chg hc6 (fun h => h)).chg hc7 (by omega)
      refine wp_seq_k fun K3 hK3 => ?_; refine wp_reg ?_
      with_reducible refine wl_fieldAt (b := w3.heap.size) (off := 0) (n := 1) ?_ ?_ ?_; (· kernel_rfl); (· simp [evb, kb, hN, Nat.reduceLT, Nat.reduceEqDiff, reduceIte, Int.reduceToNat, Int.reduceBEq, sdb])
      with_reducible refine wl_load (b := w3.heap.size) (o := 0) ?_ ?_ hb57 c0 ?_; (· kernel_rfl); (· simp [evb, kb, hN, Nat.reduceLT, Nat.reduceEqDiff, reduceIte, Int.reduceToNat, Int.reduceBEq, sdb])
      unfold kV
      by_cases hst : f.kind = .struct
      · have hsk : ((kNum f.kind : Int) == 10) = true := by rw [hst]; rfl
        (repeat (first | ((first | (with_reducible refine wl_move ?_) | (with_reducible refine wl_assign ?_) | ((with_reducible refine wl_conv ?_ ?_ ?_ ?_); (· kernel_rfl); (· kernel_rfl)) | (with_reducible refine wl_add ?_ ?_) | (with_reducible refine wl_sub ?_ ?_) | (with_reducible refine wl_lss ?_ ?_) | (with_reducible refine wl_leq ?_ ?_) | (with_reducible refine wl_gtr ?_ ?_) | (with_reducible refine wl_geq ?_ ?_) | (with_reducible refine wl_eql ?_ ?_) | (with_reducible refine wl_neq ?_ ?_) | (with_reducible refine wl_not ?_ ?_) | (with_reducible refine wl_shr ?_ ?_ ?_) | (with_reducible refine wl_and127 ?_ ?_) | (with_reducible refine wl_or128 ?_ ?_ ?_) | ((with_reducible refine wl_len ?_ ?_ ?_); rotate_left 1; (· simp [evb, kb, hN, Nat.reduceLT, Nat.reduceEqDiff, reduceIte, Int.reduceToNat, Int.reduceBEq, hsk, sdb]); rotate_left 1; (· kernel_rfl)) | ((with_reducible refine wl_lenS ?_ ?_ ?_); rotate_left 1; (· simp [evb, kb, hN, Nat.reduceLT, Nat.reduceEqDiff, reduceIte, Int.reduceToNat, Int.reduceBEq, hsk, sdb]); rotate_left 1; (· kernel_rfl))) <;> (first | (with_reducible refine wl_id ?_; try simp only [evb, kb, hN, Nat.reduceLT, Nat.reduceEqDiff, reduceIte, Int.reduceToNat, Int.reduceBEq, hsk]) | (simp [evb, kb, hN, Nat.reduceLT, Nat.reduceEqDiff, reduceIte, Int.reduceToNat, Int.reduceBEq, hsk, sdb]; done) | (simp [evb, kb, hN, Nat.reduceLT, Nat.reduceEqDiff, reduceIte, Int.reduceToNat, Int.reduceBEq, hsk, sdb]; omega)))))
        refine wl_nil ?_
        refine hK3 _ _ ?_; try clear hK3 K3
        refine wp_cond_true (by simp [evb, kb, hN, Nat.reduceLT, Nat.reduceEqDiff, reduceIte, Int.reduceToNat, Int.reduceBEq, sdb]) ?_
        obtain ⟨k, fr, to, nl, tg, df, of, sub⟩ := f
        simp only [Fld.kind, Fld.sub] at hst hx7 c7 ⊢
        subst hst
        obtain ⟨oas, caps, rfl, hsub⟩ := id hx7
        have hok2 := hokf
        unfold okF at hok2
        simp only [Bool.and_eq_true, decide_eq_true_eq] at hok2
        refine wp_reg ?_
        with_reducible refine wl_fieldAt (b := w3.heap.size) (off := 7) (n := 1) ?_ ?_ ?_; (· kernel_rfl); (· simp [evb, kb, hN, Nat.reduceLT, Nat.reduceEqDiff, reduceIte, Int.reduceToNat, Int.reduceBEq, sdb])
        with_reducible refine wl_load (b := w3.heap.size) (o := 7) ?_ ?_ hb57 c7 ?_; (· kernel_rfl); (· simp [evb, kb, hN, Nat.reduceLT, Nat.reduceEqDiff, reduceIte, Int.reduceToNat, Int.reduceBEq, sdb])
        refine wl_call (fun args w => Try.call23 args w) (by simp [evb, kb, hN, Nat.reduceLT, Nat.reduceEqDiff, reduceIte, Int.reduceToNat, Int.reduceBEq]; exact def_N N sub (by simp only [Fld.mk.sizeOf_spec] at hszf; omega) hok2.1.2 hok2.1.1.2 w7 G oas caps (hx7.stay (Stay.none hcw7))) ?_
        rintro _ w8 ⟨ts, rfl, hts, hk8⟩
        unfold sDef TrC at hts
        obtain ⟨ob, cb, ol, cl, vt, rfl, _, _, hcl, _, hel, _⟩ := hts
        refine wl_val rfl (v := .slice ol (sDefL sub).length cl) (w' := w8) ?_ ?_
        · simp only [execOp, evb, kb, hN, Nat.reduceLT, Nat.reduceEqDiff, reduceIte, Int.reduceToNat, Int.reduceBEq, aggOf]; kernel_rfl
        simp only [evb, kb, hN, Nat.reduceLT, Nat.reduceEqDiff, reduceIte, Int.reduceToNat, Int.reduceBEq]
        have hb78 := hb7.chg hk8 fun h => h
        with_reducible refine wl_fieldAt (b := w5.heap.size) (off := 3) (n := 1) ?_ ?_ ?_; (· kernel_rfl); (· simp [evb, kb, hN, Nat.reduceLT, Nat.reduceEqDiff, reduceIte, Int.reduceToNat, Int.reduceBEq, sdb])
        refine wl_store (b := w5.heap.size) (o := 3) (n := 1) (v := .slice ol (sDefL sub).length cl) (by kernel_rfl) (by simp [evb, kb, hN, Nat.reduceLT, Nat.reduceEqDiff, reduceIte, Int.reduceToNat, Int.reduceBEq, sdb]) (by simp [evb, kb, hN, Nat.reduceLT, Nat.reduceEqDiff, reduceIte, Int.reduceToNat, Int.reduceBEq, sdb]) hb78 rfl (by intro y hy; simp only [Value.cells, List.mem_singleton] at hy; subst hy; rfl) (by simp [defCells]) fun w9 hb9 hc9 => ?_
        refine wl_nil ?_
        refine rest _ w9 (sDefL sub) (.slice ol (sDefL sub).length cl) (by simp only [evb, kb, hN, Nat.reduceLT, Nat.reduceEqDiff, reduceIte, Int.reduceToNat, Int.reduceBEq]) (by simp [defers_put, hD]) (by simp only [evb, kb, hN, Nat.reduceLT, Nat.reduceEqDiff, reduceIte, Int.reduceToNat, Int.reduceBEq, g2]) (by simp only [evb, kb, hN, Nat.reduceLT, Nat.reduceEqDiff, reduceIte, Int.reduceToNat, Int.reduceBEq, g3]) (by simp only [evb, kb, hN, Nat.reduceLT, Nat.reduceEqDiff, reduceIte, Int.reduceToNat, Int.reduceBEq]) (by simp only [evb, kb, hN, Nat.reduceLT, Nat.reduceEqDiff, reduceIte, Int.reduceToNat, Int.reduceBEq, g7]) (by simp only [evb, kb, hN, Nat.reduceLT, Nat.reduceEqDiff, reduceIte, Int.reduceToNat, Int.reduceBEq, g8]) (by simp only [evb, kb, hN, Nat.reduceLT, Nat.reduceEqDiff, reduceIte, Int.reduceToNat, Int.reduceBEq, g9]) ((hk8.mono fun _ _ h => h.elim).trans hc9 fun _ _ h => h) hb9 ?_ ?_
        · have htr : TrS w8 (fun g => w7.heap.size ≤ g) (sDefL sub) (.slice ol (sDefL sub).length cl) := ⟨ol, cl, rfl, hcl, hel⟩
          refine htr.stay ⟨fun k hk hg => ⟨hc9.block k hk (by have := hb7.lt; omega), by omega, fun h => by have := hlt k h; omega⟩⟩
        · unfold sDefF; rw [if_pos rfl]
      · have hsk : ((kNum f.kind : Int) == 10) = false := by
          cases hk : f.kind <;> rw [hk] at hst <;> first | rfl | exact absurd rfl hst
        (repeat (first | ((first | (with_reducible refine wl_move ?_) | (with_reducible refine wl_assign ?_) | ((with_reducible refine wl_conv ?_ ?_ ?_ ?_); (· kernel_rfl); (· kernel_rfl)) | (with_reducible refine wl_add ?_ ?_) | (with_reducible refine wl_sub ?_ ?_) | (with_reducible refine wl_lss ?_ ?_) | (with_reducible refine wl_leq ?_ ?_) | (with_reducible refine wl_gtr ?_ ?_) | (with_reducible refine wl_geq ?_ ?_) | (with_reducible refine wl_eql ?_ ?_) | (with_reducible refine wl_neq ?_ ?_) | (with_reducible refine wl_not ?_ ?_) | (with_reducible refine wl_shr ?_ ?_ ?_) | (with_reducible refine wl_and127 ?_ ?_) | (with_reducible refine wl_or128 ?_ ?_ ?_) | ((with_reducible refine wl_len ?_ ?_ ?_); rotate_left 1; (· simp [evb, kb, hN, Nat.reduceLT, Nat.reduceEqDiff, reduceIte, Int.reduceToNat, Int.reduceBEq, hsk, sdb]); rotate_left 1; (· kernel_rfl)) | ((with_reducible refine wl_lenS ?_ ?_ ?_); rotate_left 1; (· simp [evb, kb, hN, Nat.reduceLT, Nat.reduceEqDiff, reduceIte, Int.reduceToNat, Int.reduceBEq, hsk, sdb]); rotate_left 1; (· kernel_rfl))) <;> (first | (with_reducible refine wl_id ?_; try simp only [evb, kb, hN, Nat.reduceLT, Nat.reduceEqDiff, reduceIte, Int.reduceToNat, Int.reduceBEq, hsk]) | (simp [evb, kb, hN, Nat.reduceLT, Nat.reduceEqDiff, reduceIte, Int.reduceToNat, Int.reduceBEq, hsk, sdb]; done) | (simp [evb, kb, hN, Nat.reduceLT, Nat.reduceEqDiff, reduceIte, Int.reduceToNat, Int.reduceBEq, hsk, sdb]; omega)))))
        refine wl_nil ?_
        refine hK3 _ _ ?_; try clear hK3 K3
        refine wp_cond_false (by simp [evb, kb, hN, Nat.reduceLT, Nat.reduceEqDiff, reduceIte, Int.reduceToNat, Int.reduceBEq, sdb]) ?_
        refine wp_skip ?_
        refine rest _ w7 [] (.slice none 0 0) (by simp only [evb, kb, hN, Nat.reduceLT, Nat.reduceEqDiff, reduceIte, Int.reduceToNat, Int.reduceBEq]) (by simp [defers_put, hD]) (by simp only [evb, kb, hN, Nat.reduceLT, Nat.reduceEqDiff, reduceIte, Int.reduceToNat, Int.reduceBEq, g2]) (by simp only [evb, kb, hN, Nat.reduceLT, Nat.reduceEqDiff, reduceIte, Int.reduceToNat, Int.reduceBEq, g3]) (by simp only [evb, kb, hN, Nat.reduceLT, Nat.reduceEqDiff, reduceIte, Int.reduceToNat, Int.reduceBEq]) (by simp only [evb, kb, hN, Nat.reduceLT, Nat.reduceEqDiff, reduceIte, Int.reduceToNat, Int.reduceBEq, g7]) (by simp only [evb, kb, hN, Nat.reduceLT, Nat.reduceEqDiff, reduceIte, Int.reduceToNat, Int.reduceBEq, g8]) (by simp only [evb, kb, hN, Nat.reduceLT, Nat.reduceEqDiff, reduceIte, Int.reduceToNat, Int.reduceBEq, g9]) (Chg.refl _ _) hb7 ⟨none, 0, rfl, Nat.le_refl _, .inl rfl⟩ ?_
        obtain ⟨k, fr, to, nl, tg, df, of, sub⟩ := f
        unfold sDefF
        simp only [Fld.kind] at hst
        rw [if_neg hst]
    · clear hN hD h0
      rintro a1 w3 ⟨ov, css, hN, hD, g2, g3, g7, hB1, hB2, hrow, hall, hch, hsz⟩
      have hl := sDefL_len fs
      rw [List.take_of_length_le (by omega)] at hall
      refine hK0 _ _ ?_; try clear hK0 K0
      refine wp_seq_k fun K hK => ?_; refine wp_reg ?_
      refine wl_loadAgg (b := w.heap.size + 1) (o := 0) (n := 5) (by kernel_rfl) (by kernel_rfl) (by simp [evb, kb, hN, Nat.reduceLT, Nat.reduceEqDiff, reduceIte, Int.reduceToNat, Int.reduceBEq, g3, sdb]) hB2 (Nat.le_refl _) ?_
      have hlt := hrow.lt
      have h2s : w2.heap.size = w.heap.size + 2 := by omega
      have hone2 : ov.oneCell' = true := by obtain ⟨oa', cap', rfl, _⟩ := ownsRow_slice hrow; rfl
      refine wl_storeAll (b := w.heap.size) (n := 5) (l' := [.int .i64 0, .slice none 0 0, .bool false, ov, .slice none 0 0]) (by kernel_rfl) (by simp [evb, kb, hN, Nat.reduceLT, Nat.reduceEqDiff, reduceIte, Int.reduceToNat, Int.reduceBEq, g2, sdb]) (by simp [evb, kb, hN, Nat.reduceLT, Nat.reduceEqDiff, reduceIte, Int.reduceToNat, Int.reduceBEq, sdb]; rfl) hB1 rfl (by intro y hy; simp only [List.mem_cons, List.not_mem_nil, or_false] at hy; rcases hy with rfl | rfl | rfl | rfl | rfl <;> first | rfl | exact hone2) rfl fun w4 hb4 hc4 => ?_
      refine wl_nil ?_; refine hK _ _ ?_; clear hK K
      have hst : Stay w3 w4 (fun g => w2.heap.size ≤ g ∧ ov.ownBlock ≠ some g) (fun g => w.heap.size ≤ g) := ⟨fun k hk hg => ⟨hc4.block k hk (by omega), by omega⟩⟩
      have htr : TrS w4 (fun g => w.heap.size ≤ g) (sDefL fs) ov := trS_of (ownsRow_chg hrow hc4 fun k hk e => by have := hlt k hk; omega) (by omega) (hall.imp fun _ _ h => h.stay hst) (fun k hk => by have := hlt k hk; omega)
      obtain ⟨ol, cl, rfl, hcl, hel⟩ := htr
      refine wp_ret ⟨by simp [defers_put, hD], w.heap.size, _, _, by simp only [evb, kb, hN, Nat.reduceLT, Nat.reduceEqDiff, reduceIte, Int.reduceToNat, Int.reduceBEq, g2], hb4, by kernel_rfl, ⟨_, rfl, ?_, ?_⟩⟩
      · unfold sDef TrC
        exact ⟨none, 0, ol, cl, _, rfl, rfl, Nat.le_refl _, hcl, .inl rfl, hel, none, 0, rfl, Nat.le_refl _, .inl rfl⟩
      · exact (chg_own hch).trans hc4 fun n hn h => by omega

theorem Default_c (fs : List Fld) (hok : okL fs = true) (hlen : fs.length ≤ 1073741824) {w : World} {G : Nat → Prop} {sv : Value} (hfs : SchS w G fs sv) :
    CallsR Try.prog 23 #[sv] w fun r w' => ∃ ts, r = aggOf ts ∧ TrC w' (fun g => w.heap.size ≤ g) (sDef fs) ts ∧ Chg (fun _ => False) w w' := by
  obtain ⟨oa, cap, rfl, h⟩ := id hfs
  exact def_N _ fs (Nat.lt_succ_self _) hok hlen w G oa cap hfs

end Go.Proofs.Ytkhmglikdlgfpaa
