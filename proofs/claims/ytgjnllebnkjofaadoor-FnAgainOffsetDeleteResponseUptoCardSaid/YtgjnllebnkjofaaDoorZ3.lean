import Derived.Test.YtgjnllebnkjofaaDoorZ1
import Derived.Test.YtgjnllebnkjofaaDoorZ2
import Derived.Laws.IdiomCopy
/-
What the laws' proofs rest on, part 3.
-/
namespace Go.Proofs.YtgjnllebnkjofaaDoor
set_option linter.all false
open Go.RowKit
set_option maxRecDepth 10000
set_option maxHeartbeats 2000000
abbrev tTg : TypeId := 65
abbrev tTgs : TypeId := 24
def unkPos (k : Nat) : Tags → Nat
  | [] => 0
  | y :: r => if y.1 < k then unkPos k r + 1 else 0
theorem unkPos_le (k : Nat) : ∀ l, unkPos k l ≤ l.length
  | [] => Nat.le_refl _
  | y :: r => by unfold unkPos; split <;> simp [unkPos_le k r]
theorem unk_below {k : Nat} : ∀ {l : Tags} {j : Nat}, j < unkPos k l → ∃ y, l[j]? = some y ∧ y.1 < k
  | [], j, h => by simp [unkPos] at h
  | y :: r, j, h => by
    unfold unkPos at h
    split at h
    · rename_i hy
      cases j with
      | zero => exact ⟨y, rfl, hy⟩
      | succ j => simpa using unk_below (l := r) (j := j) (by omega)
    · omega
theorem unk_at {k : Nat} : ∀ {l : Tags} {y : Nat × Bs}, l[unkPos k l]? = some y → ¬ y.1 < k
  | [], y, h => by simp at h
  | z :: r, y, h => by
    unfold unkPos at h
    split at h
    · exact unk_at (l := r) (by simpa using h)
    · rename_i hz
      simp at h; subst h; exact hz
theorem unkIns_old (x : Nat × Bs) : ∀ {l : Tags} {y : Nat × Bs}, l[unkPos x.1 l]? = some y → y.1 = x.1 → unkIns x l = l
  | [], y, h, _ => by simp at h
  | z :: r, y, h, e => by
    unfold unkPos at h
    unfold unkIns
    split at h
    · rename_i hz
      rw [if_pos hz, unkIns_old x (l := r) (by simpa using h) e]
    · rename_i hz
      simp at h; subst h
      rw [if_neg hz, if_pos e]
theorem unkIns_new (x : Nat × Bs) : ∀ {l : Tags}, (∀ y, l[unkPos x.1 l]? = some y → y.1 ≠ x.1) → unkIns x l = l.take (unkPos x.1 l) ++ x :: l.drop (unkPos x.1 l)
  | [], h => rfl
  | z :: r, h => by
    unfold unkPos at h ⊢
    unfold unkIns
    by_cases hz : z.1 < x.1
    · simp only [if_pos hz] at h ⊢
      rw [unkIns_new x (l := r) (fun y hy => h y (by simpa using hy))]
      simp
    · simp only [if_neg hz] at h ⊢
      rw [if_neg (h z (by simp))]
      simp
theorem TgL.of {w : World} {G : Nat → Prop} : ∀ {l : Tags} {vs : List Value}, (∀ i x, l[i]? = some x → TgC w G x ((vs.drop (i * 2)).take 2)) → TgL w G l vs
  | [], _, _ => trivial
  | x :: r, vs, h => ⟨by simpa using h 0 x rfl, TgL.of fun i y hy => by
      have := h (i + 1) y (by simpa using hy)
      rw [List.drop_drop, show 2 + i * 2 = (i + 1) * 2 by omega]
      exact this⟩
structure UkI (w : World) (base : Nat) (G : Nat → Prop) (acc : Tags) (v : Value) : Prop where
  row : ∃ cs, w.ownsRow base tTg 2 v acc.length cs ∧ TgL w G acc cs
theorem UkI.chg {w w' : World} {base : Nat} {G : Nat → Prop} {acc : Tags} {v : Value} {X : Nat → Prop} (h : UkI w base G acc v) (c : Chg X w w') (hx : ∀ k, base ≤ k → k < w.heap.size → ¬ X k) (hG : ∀ k, G k → k < base) (hb : ∀ k, k < base → ¬ X k) : UkI w' base G acc v := by
  obtain ⟨cs, h1, h2⟩ := h.row
  refine ⟨cs, ⟨h1.1, ?_⟩, h2.stay (Stay.of c fun k hk _ => hb k (hG k hk))⟩
  rcases h1.2 with hn | ⟨g, cap, cur, rfl, hbg, hg, rest⟩
  · exact .inl hn
  · refine .inr ⟨g, cap, cur, rfl, hbg, ?_, rest⟩
    have hlt := (Array.getElem?_eq_some_iff.1 hg).1
    rw [c.block g hlt (hx g hbg hlt)]; exact hg
theorem UkI.some {w : World} {base : Nat} {G : Nat → Prop} {acc : Tags} {v : Value} (h : UkI w base G acc v) (h0 : 0 < acc.length) :
    ∃ g cap C, v = .slice (some ⟨g, 0, none⟩) acc.length cap ∧ base ≤ g ∧ Blk w g C tTg ∧ acc.length * 2 ≤ C.length ∧ TgL w G acc C := by
  obtain ⟨cs, h1, h2⟩ := h.row
  rcases h1.2 with ⟨_, hn⟩ | ⟨g, cap, cur, rfl, hbg, hg, h3, h4, h5, h6⟩
  · omega
  · have hle : acc.length * 2 ≤ cur.size := by omega
    refine ⟨g, cap, cur.toList, rfl, hbg, by unfold Blk; simpa using hg, by simpa using hle, TgL.of fun i x hx => ?_⟩
    have hi := (List.getElem?_eq_some_iff.1 hx).1
    have := (h2.get hx).1
    rw [← h6] at this
    rw [List.drop_take, List.take_take] at this
    rwa [Nat.min_eq_left (by omega)] at this
theorem UkI.len {w : World} {base : Nat} {G : Nat → Prop} {acc : Tags} {v : Value} (h : UkI w base G acc v) : ∃ oa cap, v = .slice oa acc.length cap := by
  obtain ⟨cs, h1, h2⟩ := h.row
  rcases h1.2 with ⟨rfl, hn⟩ | ⟨g, cap, cur, rfl, _⟩
  · exact ⟨none, 0, by rw [hn]⟩
  · exact ⟨_, _, rfl⟩
theorem TgL.key {w : World} {G : Nat → Prop} {l : Tags} {C : List Value} {i : Nat} {x : Nat × Bs} (h : TgL w G l C) (hx : l[i]? = some x) : C[i * 2]? = some (.int .u32 x.1) := by
  obtain ⟨⟨ob, cb, h1, _⟩, _⟩ := h.get hx
  have := congrArg (·[0]?) h1
  simp only [List.getElem?_cons_zero] at this
  rw [List.getElem?_take_of_lt (by omega), List.getElem?_drop] at this
  simpa using this
theorem seg_ext {C D : List Value} {lo lo' n : Nat} (h : ∀ r, r < n → C[lo + r]? = D[lo' + r]?) : (C.drop lo).take n = (D.drop lo').take n := by
  apply List.ext_getElem?
  intro r
  by_cases hr : r < n
  · rw [seg_get hr, seg_get hr]; exact h r hr
  · rw [List.getElem?_eq_none (by rw [List.length_take]; omega), List.getElem?_eq_none (by rw [List.length_take]; omega)]
theorem spl_mid {l vs : List Value} {i k : Nat} (h : i + vs.length ≤ l.length) (hk : k < vs.length) : (splice l i vs)[i + k]? = vs[k]? := by
  unfold splice
  have e : (l.take i).length = i := by rw [List.length_take]; omega
  rw [List.append_assoc, List.getElem?_append_right (by omega), e, Nat.add_sub_cancel_left, List.getElem?_append_left hk]
theorem tgFacts : eSz Tryd.prog tTgs = 2 ∧ fOff Tryd.prog tTg 0 = 0 ∧ fOff Tryd.prog tTg 1 = 1 := ⟨by kernel_rfl, by kernel_rfl, by kernel_rfl⟩
theorem unknown_c (fs : List Fld) (t : Tags) (hlen : fs.length ≤ 1073741824) (hsm : TagsSmall fs) (_hok : tagOK t) {w : World} {G G' : Nat → Prop} {oa : Option Addr} {cap : Nat} {vt : Value}
    (hv : SchS w G fs (.slice oa fs.length cap)) (ht : TgS w G' t vt) :
    CallsR Tryd.prog 47 #[.slice oa fs.length cap, vt] w fun r w' => TgS w' (fun g => G' g ∨ w.heap.size ≤ g) (sUnknown fs t) r ∧ Chg (fun _ => False) w w' := by
  obtain ⟨ot, ct, rfl, hct, htl⟩ := ht
  refine callsR_of Tryd.func47 rfl rfl Tryd.ntmps47 (by simp) ?_
  intro a hN hD ha
  have h0 : get a 0 = .slice oa fs.length cap := ha 0 _ rfl
  have h1 : get a 1 = .slice ot t.length ct := ha 1 _ rfl
  refine wp_seq_k fun K hK => ?_; refine wp_reg ?_; (repeat (first | ((first | (with_reducible first | refine wl_move ?_ | refine wl_assign ?_ | refine wl_add ?_ ?_ | refine wl_sub ?_ ?_ | refine wl_lss ?_ ?_ | refine wl_leq ?_ ?_ | refine wl_gtr ?_ ?_ | refine wl_geq ?_ ?_ | refine wl_eql ?_ ?_ | refine wl_neq ?_ ?_ | refine wl_not ?_ ?_ | refine wl_shr ?_ ?_ ?_ | refine wl_and127 ?_ ?_ | refine wl_or128 ?_ ?_ ?_) | ((with_reducible refine wl_conv ?_ ?_ ?_ ?_); (· kernel_rfl); (· kernel_rfl)) | ((with_reducible refine wl_len ?_ ?_ ?_); rotate_left 1; (· simp [evb, kb, hN, sdb]); rotate_left 1; (· kernel_rfl)) | ((with_reducible refine wl_lenS ?_ ?_ ?_); rotate_left 1; (· simp [evb, kb, hN, sdb]); rotate_left 1; (· kernel_rfl))) <;> (first | (with_reducible refine wl_id ?_; try simp only [evb, kb, hN, Nat.reduceLT, Nat.reduceEqDiff, reduceIte, Int.reduceToNat, Int.reduceBEq]) | (simp [evb, kb, hN, sdb] <;> omega))))); refine wl_nil ?_; refine hK _ _ ?_; clear hK K
  refine wp_seq_k fun K hK => ?_; refine wp_reg ?_; (repeat (first | ((first | (with_reducible first | refine wl_move ?_ | refine wl_assign ?_ | refine wl_add ?_ ?_ | refine wl_sub ?_ ?_ | refine wl_lss ?_ ?_ | refine wl_leq ?_ ?_ | refine wl_gtr ?_ ?_ | refine wl_geq ?_ ?_ | refine wl_eql ?_ ?_ | refine wl_neq ?_ ?_ | refine wl_not ?_ ?_ | refine wl_shr ?_ ?_ ?_ | refine wl_and127 ?_ ?_ | refine wl_or128 ?_ ?_ ?_) | ((with_reducible refine wl_conv ?_ ?_ ?_ ?_); (· kernel_rfl); (· kernel_rfl)) | ((with_reducible refine wl_len ?_ ?_ ?_); rotate_left 1; (· simp [evb, kb, hN, h0, sdb]); rotate_left 1; (· kernel_rfl)) | ((with_reducible refine wl_lenS ?_ ?_ ?_); rotate_left 1; (· simp [evb, kb, hN, h0, sdb]); rotate_left 1; (· kernel_rfl))) <;> (first | (with_reducible refine wl_id ?_; try simp only [evb, kb, hN, Nat.reduceLT, Nat.reduceEqDiff, reduceIte, Int.reduceToNat, Int.reduceBEq, h0]) | (simp [evb, kb, hN, h0, sdb] <;> omega)))))
  refine wl_call (fun args w => Tryd.call44 args w) (by simp [evb, kb, hN, Nat.reduceLT, Nat.reduceEqDiff, reduceIte, Int.reduceToNat, Int.reduceBEq, h0]; exact known_c fs hlen hsm hv) ?_
  rintro v w1 ⟨rfl, hkn, hc⟩
  (repeat (first | ((first | (with_reducible first | refine wl_move ?_ | refine wl_assign ?_ | refine wl_add ?_ ?_ | refine wl_sub ?_ ?_ | refine wl_lss ?_ ?_ | refine wl_leq ?_ ?_ | refine wl_gtr ?_ ?_ | refine wl_geq ?_ ?_ | refine wl_eql ?_ ?_ | refine wl_neq ?_ ?_ | refine wl_not ?_ ?_ | refine wl_shr ?_ ?_ ?_ | refine wl_and127 ?_ ?_ | refine wl_or128 ?_ ?_ ?_) | ((with_reducible refine wl_conv ?_ ?_ ?_ ?_); (· kernel_rfl); (· kernel_rfl)) | ((with_reducible refine wl_len ?_ ?_ ?_); rotate_left 1; (· simp [evb, kb, hN, sdb]); rotate_left 1; (· kernel_rfl)) | ((with_reducible refine wl_lenS ?_ ?_ ?_); rotate_left 1; (· simp [evb, kb, hN, sdb]); rotate_left 1; (· kernel_rfl))) <;> (first | (with_reducible refine wl_id ?_; try simp only [evb, kb, hN, Nat.reduceLT, Nat.reduceEqDiff, reduceIte, Int.reduceToNat, Int.reduceBEq]) | (simp [evb, kb, hN, sdb] <;> omega)))))
  refine wl_nil ?_; refine hK _ _ ?_; clear hK K
  refine wp_seq_k fun K hK => ?_; refine wp_reg ?_; (repeat (first | ((first | (with_reducible first | refine wl_move ?_ | refine wl_assign ?_ | refine wl_add ?_ ?_ | refine wl_sub ?_ ?_ | refine wl_lss ?_ ?_ | refine wl_leq ?_ ?_ | refine wl_gtr ?_ ?_ | refine wl_geq ?_ ?_ | refine wl_eql ?_ ?_ | refine wl_neq ?_ ?_ | refine wl_not ?_ ?_ | refine wl_shr ?_ ?_ ?_ | refine wl_and127 ?_ ?_ | refine wl_or128 ?_ ?_ ?_) | ((with_reducible refine wl_conv ?_ ?_ ?_ ?_); (· kernel_rfl); (· kernel_rfl)) | ((with_reducible refine wl_len ?_ ?_ ?_); rotate_left 1; (· simp [evb, kb, hN, sdb]); rotate_left 1; (· kernel_rfl)) | ((with_reducible refine wl_lenS ?_ ?_ ?_); rotate_left 1; (· simp [evb, kb, hN, sdb]); rotate_left 1; (· kernel_rfl))) <;> (first | (with_reducible refine wl_id ?_; try simp only [evb, kb, hN, Nat.reduceLT, Nat.reduceEqDiff, reduceIte, Int.reduceToNat, Int.reduceBEq]) | (simp [evb, kb, hN, sdb] <;> omega))))); refine wl_nil ?_; refine hK _ _ ?_; clear hK K
  refine wp_seq_k fun K0 hK0 => ?_; refine wp_seq_k fun K hK => ?_; refine wp_reg ?_
  (repeat (first | ((first | (with_reducible first | refine wl_move ?_ | refine wl_assign ?_ | refine wl_add ?_ ?_ | refine wl_sub ?_ ?_ | refine wl_lss ?_ ?_ | refine wl_leq ?_ ?_ | refine wl_gtr ?_ ?_ | refine wl_geq ?_ ?_ | refine wl_eql ?_ ?_ | refine wl_neq ?_ ?_ | refine wl_not ?_ ?_ | refine wl_shr ?_ ?_ ?_ | refine wl_and127 ?_ ?_ | refine wl_or128 ?_ ?_ ?_ | refine wl_min ?_ ?_ ?_ | refine wl_max ?_ ?_ ?_ | refine wl_mul ?_ ?_) | ((with_reducible refine wl_conv ?_ ?_ ?_ ?_); (· kernel_rfl); (· kernel_rfl)) | ((with_reducible refine wl_len ?_ ?_ ?_); rotate_left 1; (· simp [evb, kb, hN, h1, bigb, sdb]); rotate_left 1; (· kernel_rfl)) | ((with_reducible refine wl_lenS ?_ ?_ ?_); rotate_left 1; (· simp [evb, kb, hN, h1, bigb, sdb]); rotate_left 1; (· kernel_rfl)) | ((with_reducible refine wl_pickT ?_ ?_); (· simp [evb, kb, hN, h1, bigb, sdb])) | ((with_reducible refine wl_pickF ?_ ?_); (· simp [evb, kb, hN, h1, bigb, sdb]))) <;> (first | (with_reducible refine wl_id ?_; try simp only [evb, kb, hN, Nat.reduceLT, Nat.reduceEqDiff, reduceIte, Int.reduceToNat, Int.reduceBEq, h1, bigb]) | (simp [evb, kb, hN, h1, bigb, sdb] <;> omega))) | ((with_reducible apply wl_gyesB); (· exact rfl); (· exact rfl); (· simp [evb, kb, hN, h1, bigb, sdb]); try simp only [evb, kb, hN, Nat.reduceLT, Nat.reduceEqDiff, reduceIte, Int.reduceToNat, Int.reduceBEq, h1, bigb]) | ((with_reducible apply wl_gnoB); (· exact rfl); (· exact rfl); (· simp [evb, kb, hN, h1, bigb, sdb]); try simp only [evb, kb, hN, Nat.reduceLT, Nat.reduceEqDiff, reduceIte, Int.reduceToNat, Int.reduceBEq, h1, bigb]) | ((with_reducible apply wl_gnoU); (· exact rfl); (· exact rfl); (· simp [evb, kb, hN, h1, bigb, sdb]); try simp only [evb, kb, hN, Nat.reduceLT, Nat.reduceEqDiff, reduceIte, Int.reduceToNat, Int.reduceBEq, h1, bigb])))
  have e : (if (32767 : Int) < (t.length : Int) then (32767 : Int) else (t.length : Int)) = ((t.take MOST).length : Int) := by
    simp only [List.length_take, MOST]; split <;> omega
  rw [e]
  have hle : (t.take MOST).length ≤ ct := by simp only [List.length_take]; omega
  have hmost : (t.take MOST).length ≤ 32767 := by simp only [List.length_take, MOST]; omega
  refine wl_sliceTo (e := 2) (oa := ot) (len := t.length) (n := (t.take MOST).length) (k := .i64) (cap := ct) (by kernel_rfl) (by simp [evb, kb, hN, h1, sdb]) (by simp [evb, kb, hN, sdb]) hle ?_
  (repeat (first | ((first | (with_reducible first | refine wl_move ?_ | refine wl_assign ?_ | refine wl_add ?_ ?_ | refine wl_sub ?_ ?_ | refine wl_lss ?_ ?_ | refine wl_leq ?_ ?_ | refine wl_gtr ?_ ?_ | refine wl_geq ?_ ?_ | refine wl_eql ?_ ?_ | refine wl_neq ?_ ?_ | refine wl_not ?_ ?_ | refine wl_shr ?_ ?_ ?_ | refine wl_and127 ?_ ?_ | refine wl_or128 ?_ ?_ ?_ | refine wl_min ?_ ?_ ?_ | refine wl_max ?_ ?_ ?_ | refine wl_mul ?_ ?_) | ((with_reducible refine wl_conv ?_ ?_ ?_ ?_); (· kernel_rfl); (· kernel_rfl)) | ((with_reducible refine wl_len ?_ ?_ ?_); rotate_left 1; (· simp [evb, kb, hN, h1, bigb, sdb]); rotate_left 1; (· kernel_rfl)) | ((with_reducible refine wl_lenS ?_ ?_ ?_); rotate_left 1; (· simp [evb, kb, hN, h1, bigb, sdb]); rotate_left 1; (· kernel_rfl)) | ((with_reducible refine wl_pickT ?_ ?_); (· simp [evb, kb, hN, h1, bigb, sdb])) | ((with_reducible refine wl_pickF ?_ ?_); (· simp [evb, kb, hN, h1, bigb, sdb]))) <;> (first | (with_reducible refine wl_id ?_; try simp only [evb, kb, hN, Nat.reduceLT, Nat.reduceEqDiff, reduceIte, Int.reduceToNat, Int.reduceBEq, h1, bigb]) | (simp [evb, kb, hN, h1, bigb, sdb] <;> omega))) | ((with_reducible apply wl_gyesB); (· exact rfl); (· exact rfl); (· simp [evb, kb, hN, h1, bigb, sdb]); try simp only [evb, kb, hN, Nat.reduceLT, Nat.reduceEqDiff, reduceIte, Int.reduceToNat, Int.reduceBEq, h1, bigb]) | ((with_reducible apply wl_gnoB); (· exact rfl); (· exact rfl); (· simp [evb, kb, hN, h1, bigb, sdb]); try simp only [evb, kb, hN, Nat.reduceLT, Nat.reduceEqDiff, reduceIte, Int.reduceToNat, Int.reduceBEq, h1, bigb]) | ((with_reducible apply wl_gnoU); (· exact rfl); (· exact rfl); (· simp [evb, kb, hN, h1, bigb, sdb]); try simp only [evb, kb, hN, Nat.reduceLT, Nat.reduceEqDiff, reduceIte, Int.reduceToNat, Int.reduceBEq, h1, bigb])))
  refine wl_nil ?_; refine hK _ _ ?_; clear hK K
  obtain ⟨k, hkk⟩ : ∃ k, k = sKnown fs 0 := ⟨_, rfl⟩
  have hun : sUnknown fs t = sUnkFrom k (t.take MOST) [] := by rw [hkk]; rfl
  rw [← hkk] at hkn
  simp only [← hkk]
  clear hkk
  obtain ⟨ts, hts⟩ : ∃ ts, ts = t.take MOST := ⟨_, rfl⟩
  have htl' : ts = [] ∨ ∃ b o cs T, ot = some ⟨b, o, none⟩ ∧ G' b ∧ Rbk w b cs T ∧ TgL w G' ts (cs.drop o) := by
    rcases htl with rfl | ⟨b, o, cs, T, q1, q2, q3, q4⟩
    · exact .inl (by simp [hts])
    · exact .inr ⟨b, o, cs, T, q1, q2, q3, by rw [hts]; exact q4.take _⟩
  rw [← hts] at hmost hle hun ⊢
  clear htl e hts
  refine wp_range (n := ts.length) (fun i a' w' => ∃ acc v6, a'.tmps.size = 85 ∧ a'.defers = [] ∧ get a' 17 = .slice ot ts.length ct ∧ get a' 5 = .int .u32 k ∧ get a' 6 = v6 ∧ acc.length ≤ i ∧
      UkI w' w.heap.size (fun g => G' g ∧ g < w.heap.size) acc v6 ∧ sUnkFrom k (ts.drop i) acc = sUnkFrom k ts [] ∧ Chg (fun g => w.heap.size ≤ g) w w') 85 (by omega)
    (by simp only [evb, kb, hN, Nat.reduceLT, Nat.reduceEqDiff, reduceIte, Int.reduceToNat, Int.reduceBEq]; try rfl) (by simp only [evb, kb, hN, Nat.reduceLT, Nat.reduceEqDiff, reduceIte, Int.reduceToNat, Int.reduceBEq]) ⟨[], .slice none 0 0, by simp only [evb, kb, hN, Nat.reduceLT, Nat.reduceEqDiff, reduceIte, Int.reduceToNat, Int.reduceBEq], by simp [defers_put, hD], by simp only [evb, kb, hN, Nat.reduceLT, Nat.reduceEqDiff, reduceIte, Int.reduceToNat, Int.reduceBEq], by simp only [evb, kb, hN, Nat.reduceLT, Nat.reduceEqDiff, reduceIte, Int.reduceToNat, Int.reduceBEq], by simp only [evb, kb, hN, Nat.reduceLT, Nat.reduceEqDiff, reduceIte, Int.reduceToNat, Int.reduceBEq], Nat.le_refl _, ⟨[], World.ownsRow_nil _ _ _ _, trivial⟩, rfl, hc.mono fun _ _ h => h.elim⟩ ?_ ?_ (by decide) ?_ ?_
  · rintro i a w ⟨_, _, h, _⟩; exact h
  · rintro i a w t v ht ⟨acc, v6, k1, k2, k3, k4, k5, k6⟩
    rcases ht with rfl | rfl | rfl <;> exact ⟨acc, v6, by rw [size_put]; exact k1, by rw [defers_put]; exact k2, by rw [get_put_ne (by decide)]; exact k3, by rw [get_put_ne (by decide)]; exact k4, by rw [get_put_ne (by decide)]; exact k5, k6⟩
  · clear hN hD
    rintro i a1 w2 hi ⟨acc, v6, hN, hD, g17, g5, g6, hal, hU, hs, hc2⟩ g18 g19
    have hx : ts[i]? = some ts[i] := by simp [hi]
    generalize ts[i] = x at hx
    rcases htl' with rfl | ⟨b, o, cs, T, rfl, hGb, hb, htl⟩
    · simp at hi
    obtain ⟨hcx, hlx⟩ := htl.get hx
    obtain ⟨ob, cb, hx1, hx2, hx3, hx4⟩ := hcx
    have hb2 : Rbk w2 b cs T := hb.chg hc2 (by have := hb.lt; omega)
    have hdrop : sUnkFrom k (ts.drop (i + 1)) (if x.1 < k then acc else unkIns x acc) = sUnkFrom k ts [] := by
      rw [← hs]
      have hd : ts.drop i = x :: ts.drop (i + 1) := by
        obtain ⟨hh, he⟩ := List.getElem?_eq_some_iff.1 hx
        rw [List.drop_eq_getElem_cons hh, he]
      rw [hd]; rfl
    refine wp_seq_k fun K hK => ?_; refine wp_reg ?_
    refine wl_indexAddr (b := b) (o := o) (k := .i64) (i := i) (n := 2) (len := ts.length) (cap := ct) (by kernel_rfl) (by simp [evb, kb, hN, g17, sdb]) (by simp [evb, kb, hN, g19, sdb]) hi ?_
    rw [List.length_drop] at hlx
    refine wl_loadAgg_r (b := b) (o := o + i * 2) (n := 2) (by kernel_rfl) (by kernel_rfl) (by simp [evb, kb, hN, sdb]) hb2 (by omega) ?_
    rw [List.drop_drop] at hx1
    rw [hx1]
    refine wl_allocA (z := aggOf [.int .u32 0, .slice none 0 0]) (fun w => Tryd.zeroValue65 w) fun w3 hc3 hb3 hs3 => ?_
    refine wl_storeAll (b := w2.heap.size) (n := 2) (l' := [.int .u32 x.1, .slice ob x.2.length cb]) (by kernel_rfl) (by simp [evb, kb, hN, sdb]) (by simp [evb, kb, hN, sdb]; rfl) hb3 rfl (by intro y hy; simp only [List.mem_cons, List.not_mem_nil, or_false] at hy; rcases hy with rfl | rfl <;> rfl) rfl fun w4 hb4 hc4 => ?_
    refine wl_nil ?_; refine hK _ _ ?_; clear hK K
    have hc24 : Chg (fun g => w2.heap.size ≤ g) w2 w4 := (hc3.mono fun _ _ h => h.elim).trans hc4 fun n hn h => by omega
    have hU4 : UkI w4 w.heap.size (fun g => G' g ∧ g < w.heap.size) acc v6 := hU.chg hc24 (fun _ _ h => by omega) (fun _ h => h.2) (fun _ h => by have := hc2.size; omega)
    have hc04 : Chg (fun g => w.heap.size ≤ g) w w4 := hc2.trans hc24 fun n hn h => by have := hc2.size; omega
    have hg8 : w.heap.size ≤ w2.heap.size := hc2.size
    have hlt6 : ∀ k, v6.ownBlock = some k → w.heap.size ≤ k ∧ k < w2.heap.size := by
      obtain ⟨cs0, q1, _⟩ := hU.row
      exact World.ownsRow.lt q1
    have hU3 := hU
    clear hU hc3 hb3 hs3
    generalize w2.heap.size = g8 at *
    have hg8l := hb4.lt
    have hpl := unkPos_le x.1 acc
    have hGlt : ∀ k, (G' k ∧ k < w.heap.size) → k < w.heap.size := fun _ h => h.2
    refine wp_seq_k fun K hK => ?_; refine wp_reg ?_; (repeat ((with_reducible refine wl_p ?_ ?_ ?_); (· simp [evb, pvb, rnb, kb, hN, dyb, sdb] <;> omega); (· kernel_rfl); try simp only [evb, pvb, rnb, kb, hN, Nat.reduceLT, Nat.reduceEqDiff, reduceIte, Int.reduceToNat, Int.reduceBEq, Nat.reduceAdd])); refine wl_nil ?_; refine hK _ _ ?_; clear hK K
    refine wp_seq_k fun K1 hK1 => ?_
    refine wp_block ?_
    refine wp_loop (fun a' w' => ∃ j : Nat, a'.tmps.size = 85 ∧ a'.defers = [] ∧ get a' 17 = .slice (some ⟨b, o, none⟩) ts.length ct ∧ get a' 5 = .int .u32 k ∧ get a' 6 = v6 ∧ get a' 8 = .pointer (some ⟨g8, 0, none⟩) ∧ get a' 9 = .int .i64 j ∧ get a' 18 = .int .i64 ts.length ∧
      get a' 19 = .int .i64 i ∧ j ≤ unkPos x.1 acc ∧ Chg (fun _ => False) w4 w') (fun a' _ => acc.length - (intOf (get a' 9)).toNat) ⟨0, by simp only [evb, kb, hN, Nat.reduceLT, Nat.reduceEqDiff, reduceIte, Int.reduceToNat, Int.reduceBEq], by simp [defers_put, hD], by simp only [evb, kb, hN, Nat.reduceLT, Nat.reduceEqDiff, reduceIte, Int.reduceToNat, Int.reduceBEq, g17], by simp only [evb, kb, hN, Nat.reduceLT, Nat.reduceEqDiff, reduceIte, Int.reduceToNat, Int.reduceBEq, g5], by simp only [evb, kb, hN, Nat.reduceLT, Nat.reduceEqDiff, reduceIte, Int.reduceToNat, Int.reduceBEq, g6], by simp only [evb, kb, hN, Nat.reduceLT, Nat.reduceEqDiff, reduceIte, Int.reduceToNat, Int.reduceBEq], by simp only [evb, kb, hN, Nat.reduceLT, Nat.reduceEqDiff, reduceIte, Int.reduceToNat, Int.reduceBEq]; rfl, by simp only [evb, kb, hN, Nat.reduceLT, Nat.reduceEqDiff, reduceIte, Int.reduceToNat, Int.reduceBEq, g18], by simp only [evb, kb, hN, Nat.reduceLT, Nat.reduceEqDiff, reduceIte, Int.reduceToNat, Int.reduceBEq, g19], Nat.zero_le _, Chg.refl _ _⟩ ?_
    clear hN hD g17 g5 g6 g18 g19
    rintro a2 w5 ⟨j, hN, hD, g17, g5, g6, g8', g9, g18, g19, hj, hc5⟩
    obtain ⟨e2, o0, o1⟩ := tgFacts
    have hb5 := hb4.chg hc5 fun h => h
    have l8 := hb5.ld (i := 0) rfl
    have hU5 : UkI w5 w.heap.size (fun g => G' g ∧ g < w.heap.size) acc v6 := hU4.chg hc5 (fun _ _ _ h => h) hGlt (fun _ _ h => h)
    obtain ⟨oa6, cap6, hv6⟩ := hU5.len
    rw [hv6] at g6
    refine wp_seq_k fun K2 hK2 => ?_; refine wp_seq_k fun K3 hK3 => ?_
    refine wp_ord (fun _ => False) follows_any (by kernel_rfl) ?_
    have next : ∀ a3 w6, a3.tmps.size = 85 → a3.defers = [] → get a3 17 = .slice (some ⟨b, o, none⟩) ts.length ct → get a3 5 = .int .u32 k → get a3 6 = v6 → get a3 8 = .pointer (some ⟨g8, 0, none⟩) → get a3 9 = .int .i64 j → get a3 18 = .int .i64 ts.length → get a3 19 = .int .i64 i →
        j = unkPos x.1 acc → Chg (fun _ => False) w4 w6 → K1 a3 w6 := by
      clear hN hD g17 g5 g6 g8' g9 g18 g19 hK2 hK3 K2 K3 hc5 hb5 l8 hU5
      intro a3 w6 hN hD g17 g5 g6 g8' g9 g18 g19 hjp hc6
      have hb6 := hb4.chg hc6 fun h => h
      have l8 := hb6.ld (i := 0) rfl
      have hU6 : UkI w6 w.heap.size (fun g => G' g ∧ g < w.heap.size) acc v6 := hU4.chg hc6 (fun _ _ _ h => h) hGlt (fun _ _ h => h)
      rw [hv6] at g6
      refine hK1 _ _ ?_
      clear hK1 K1
      refine wp_seq_k fun K4 hK4 => ?_; refine wp_seq_k fun K5 hK5 => ?_
      refine wp_ord (fun _ => False) follows_any (by kernel_rfl) ?_
      by_cases hxk : x.1 < k
      · have d2 : decide ((x.1 : Int) < (k : Int)) = true := decide_eq_true (by omega)
        rw [if_pos hxk] at hdrop
        (repeat (first | (refine wf_p rfl rfl ?_ ?_ ?_ ?_; (· first | exact rdX_no | (refine ⟨?_⟩; simp [rxb]; done)); (· simp [evb, pvb, rnb, kb, hN, Nat.reduceLT, Nat.reduceEqDiff, reduceIte, Int.reduceToNat, Int.reduceBEq, Nat.reduceAdd, g6, g9, g8', g5, l8, e2, o0, o1, d2, Nat.add_zero, dyb, sdb] <;> omega); (· kernel_rfl); try simp only [evb, pvb, rnb, kb, hN, Nat.reduceLT, Nat.reduceEqDiff, reduceIte, Int.reduceToNat, Int.reduceBEq, Nat.reduceAdd, g6, g9, g8', g5, l8, e2, o0, o1, d2, Nat.add_zero]) | (refine wf_pg rfl rfl rfl ?_ rfl ?_ ?_ ?_ ?_; (· simp [evb, pvb, rnb, kb, hN, Nat.reduceLT, Nat.reduceEqDiff, reduceIte, Int.reduceToNat, Int.reduceBEq, Nat.reduceAdd, g6, g9, g8', g5, l8, e2, o0, o1, d2, Nat.add_zero]; done); (· first | exact rdX_no | (refine ⟨?_⟩; simp [rxb]; done)); (· simp [evb, pvb, rnb, kb, hN, Nat.reduceLT, Nat.reduceEqDiff, reduceIte, Int.reduceToNat, Int.reduceBEq, Nat.reduceAdd, g6, g9, g8', g5, l8, e2, o0, o1, d2, Nat.add_zero, dyb, sdb] <;> omega); (· kernel_rfl); try simp only [evb, pvb, rnb, kb, hN, Nat.reduceLT, Nat.reduceEqDiff, reduceIte, Int.reduceToNat, Int.reduceBEq, Nat.reduceAdd, g6, g9, g8', g5, l8, e2, o0, o1, d2, Nat.add_zero]) | (refine wf_gno rfl rfl rfl ?_ ?_; (· simp [evb, pvb, rnb, kb, hN, Nat.reduceLT, Nat.reduceEqDiff, reduceIte, Int.reduceToNat, Int.reduceBEq, Nat.reduceAdd, g6, g9, g8', g5, l8, e2, o0, o1, d2, Nat.add_zero]; done); try simp only [evb, pvb, rnb, kb, hN, Nat.reduceLT, Nat.reduceEqDiff, reduceIte, Int.reduceToNat, Int.reduceBEq, Nat.reduceAdd, g6, g9, g8', g5, l8, e2, o0, o1, d2, Nat.add_zero]) | (refine wf_gnoU rfl rfl rfl ?_ ?_; (· simp [evb, pvb, rnb, kb, hN, Nat.reduceLT, Nat.reduceEqDiff, reduceIte, Int.reduceToNat, Int.reduceBEq, Nat.reduceAdd, g6, g9, g8', g5, l8, e2, o0, o1, d2, Nat.add_zero]; done); try simp only [evb, pvb, rnb, kb, hN, Nat.reduceLT, Nat.reduceEqDiff, reduceIte, Int.reduceToNat, Int.reduceBEq, Nat.reduceAdd, g6, g9, g8', g5, l8, e2, o0, o1, d2, Nat.add_zero])))
        refine wf_nil (by decide) ?_
        refine hK5 _ _ ?_
        refine wp_cond_true (by simp only [evb, pvb, rnb, kb, hN, Nat.reduceLT, Nat.reduceEqDiff, reduceIte, Int.reduceToNat, Int.reduceBEq, Nat.reduceAdd]) ?_
        refine wp_exit ?_
        refine ⟨rfl, ⟨acc, v6, by simp only [evb, kb, hN, Nat.reduceLT, Nat.reduceEqDiff, reduceIte, Int.reduceToNat, Int.reduceBEq], by simp [defers_put, hD], by simp only [evb, pvb, rnb, kb, hN, Nat.reduceLT, Nat.reduceEqDiff, reduceIte, Int.reduceToNat, Int.reduceBEq, Nat.reduceAdd, g17], by simp only [evb, pvb, rnb, kb, hN, Nat.reduceLT, Nat.reduceEqDiff, reduceIte, Int.reduceToNat, Int.reduceBEq, Nat.reduceAdd, g5], by simp only [evb, pvb, rnb, kb, hN, Nat.reduceLT, Nat.reduceEqDiff, reduceIte, Int.reduceToNat, Int.reduceBEq, Nat.reduceAdd, g6, hv6], by omega, hU6.chg (Chg.drew (fun _ => False) _) (fun _ _ _ h => h) hGlt (fun _ _ h => h), hdrop, ((hc04.trans hc6 fun _ _ h => h.elim).trans (Chg.drew (fun _ => False) _) fun _ _ h => h.elim)⟩, by simp only [evb, pvb, rnb, kb, hN, Nat.reduceLT, Nat.reduceEqDiff, reduceIte, Int.reduceToNat, Int.reduceBEq, Nat.reduceAdd, g18], by simp only [evb, pvb, rnb, kb, hN, Nat.reduceLT, Nat.reduceEqDiff, reduceIte, Int.reduceToNat, Int.reduceBEq, Nat.reduceAdd, g19]⟩
      · have d2 : decide ((x.1 : Int) < (k : Int)) = false := decide_eq_false (by omega)
        rw [if_neg hxk] at hdrop
        have ins : ∀ a5 w7, a5.tmps.size = 85 → a5.defers = [] → get a5 17 = .slice (some ⟨b, o, none⟩) ts.length ct → get a5 5 = .int .u32 k → get a5 6 = v6 → get a5 8 = .pointer (some ⟨g8, 0, none⟩) → get a5 9 = .int .i64 j → get a5 18 = .int .i64 ts.length → get a5 19 = .int .i64 i →
            (∀ y, acc[unkPos x.1 acc]? = some y → y.1 ≠ x.1) → Chg (fun _ => False) w4 w7 → K4 a5 w7 := by
          clear hN hD g17 g5 g6 g8' g9 g18 g19 hK5 K5 hc6 hb6 l8 hU6
          intro a5 w7 hN hD g17 g5 g6 g8' g9 g18 g19 hne hc7
          rw [unkIns_new x hne, ← hjp] at hdrop
          rw [← hjp] at hpl
          have hb7 := hb4.chg hc7 fun h => h
          have hU7 : UkI w7 w.heap.size (fun g => G' g ∧ g < w.heap.size) acc v6 := hU4.chg hc7 (fun _ _ _ h => h) hGlt (fun _ _ h => h)
          refine hK4 _ _ ?_
          clear hK4 K4
          refine wp_seq_k fun K hK => ?_; refine wp_reg ?_
          (repeat (first | ((first | (with_reducible first | refine wl_move ?_ | refine wl_assign ?_ | refine wl_add ?_ ?_ | refine wl_sub ?_ ?_ | refine wl_lss ?_ ?_ | refine wl_leq ?_ ?_ | refine wl_gtr ?_ ?_ | refine wl_geq ?_ ?_ | refine wl_eql ?_ ?_ | refine wl_neq ?_ ?_ | refine wl_not ?_ ?_ | refine wl_shr ?_ ?_ ?_ | refine wl_and127 ?_ ?_ | refine wl_or128 ?_ ?_ ?_) | ((with_reducible refine wl_conv ?_ ?_ ?_ ?_); (· kernel_rfl); (· kernel_rfl)) | ((with_reducible refine wl_len ?_ ?_ ?_); rotate_left 1; (· simp [evb, kb, hN, g6, sdb]); rotate_left 1; (· kernel_rfl)) | ((with_reducible refine wl_lenS ?_ ?_ ?_); rotate_left 1; (· simp [evb, kb, hN, g6, sdb]); rotate_left 1; (· kernel_rfl))) <;> (first | (with_reducible refine wl_id ?_; try simp only [evb, kb, hN, Nat.reduceLT, Nat.reduceEqDiff, reduceIte, Int.reduceToNat, Int.reduceBEq, g6]) | (simp [evb, kb, hN, g6, sdb] <;> omega)))))
          refine wl_build (l := [.int .u32 0, .slice none 0 0]) (by kernel_rfl) ?_
          refine wl_lit1 (e := tTg) (sz := 2) (z := aggOf [.int .u32 0, .slice none 0 0]) (l := [.int .u32 0, .slice none 0 0]) (by kernel_rfl) (by kernel_rfl) (fun w => Tryd.zeroValue65 w) (by simp [evb, kb, hN, sdb]) rfl (by decide) (by decide) fun w8 hc8 hb8 hs8 => ?_
          have hU8 : UkI w8 w.heap.size (fun g => G' g ∧ g < w.heap.size) acc v6 := hU7.chg hc8 (fun _ _ _ h => h) hGlt (fun _ _ h => h)
          obtain ⟨cs0, q1, q2⟩ := hU8.row
          have hsz8 : w4.heap.size ≤ w8.heap.size := Nat.le_trans hc7.size hc8.size
          refine wl_appRow (e := tTg) (size := 2) (n := acc.length) (m := 1) (c := 1) (b := w7.heap.size) (news := [.int .u32 0, .slice none 0 0]) (v := v6) (xs := cs0) (base := w.heap.size) (by kernel_rfl) (by simp [evb, kb, hN, g6, sdb]) q1 (by simp [evb, kb, hN, sdb]) hb8 rfl (by intro u hu; simp only [List.mem_cons, List.not_mem_nil, or_false] at hu; rcases hu with rfl | rfl <;> rfl) (by decide) (by omega) (by have := hc04.size; omega) fun g cap8 w9 hrow hc9 hgo hgl => ?_
          (repeat (first | ((first | (with_reducible first | refine wl_move ?_ | refine wl_assign ?_ | refine wl_add ?_ ?_ | refine wl_sub ?_ ?_ | refine wl_lss ?_ ?_ | refine wl_leq ?_ ?_ | refine wl_gtr ?_ ?_ | refine wl_geq ?_ ?_ | refine wl_eql ?_ ?_ | refine wl_neq ?_ ?_ | refine wl_not ?_ ?_ | refine wl_shr ?_ ?_ ?_ | refine wl_and127 ?_ ?_ | refine wl_or128 ?_ ?_ ?_) | ((with_reducible refine wl_conv ?_ ?_ ?_ ?_); (· kernel_rfl); (· kernel_rfl)) | ((with_reducible refine wl_len ?_ ?_ ?_); rotate_left 1; (· simp [evb, kb, hN, sdb]); rotate_left 1; (· kernel_rfl)) | ((with_reducible refine wl_lenS ?_ ?_ ?_); rotate_left 1; (· simp [evb, kb, hN, sdb]); rotate_left 1; (· kernel_rfl))) <;> (first | (with_reducible refine wl_id ?_; try simp only [evb, kb, hN, Nat.reduceLT, Nat.reduceEqDiff, reduceIte, Int.reduceToNat, Int.reduceBEq]) | (simp [evb, kb, hN, sdb] <;> omega)))))
          refine wl_nil ?_; refine hK _ _ ?_; clear hK K
          obtain ⟨g', cap2, cur, ev, hbg, hgh, hn9, hcm, hcs, htk⟩ := hrow.2.resolve_left (fun h => by cases h.1)
          simp only [Value.slice.injEq, Option.some.injEq, Addr.mk.injEq, true_and, and_true] at ev
          obtain ⟨rfl, rfl⟩ := ev
          have hlc0 : cs0.length = acc.length * 2 := q1.1
          have hgg8 : g ≠ g8 := by
            rcases hgo with h | h
            · have := (hlt6 g h).2; omega
            · omega
          obtain ⟨C, hC⟩ : ∃ C, C = cur.toList := ⟨_, rfl⟩
          have hbC : Blk w9 g C tTg := by rw [hC]; unfold Blk; simpa using hgh
          have hlC : C.length = cap8 * 2 := by rw [hC]; simpa using hcs
          rw [← hC] at htk
          have hCn : ∀ r, r < acc.length * 2 → C[r]? = cs0[r]? := by
            intro r hr
            have : (C.take ((acc.length + 1) * 2))[r]? = (cs0 ++ [.int .u32 0, .slice none 0 0])[r]? := by rw [htk]
            rw [List.getElem?_take_of_lt (by omega), List.getElem?_append_left (by omega)] at this
            exact this
          clear hgh hcs htk hC cur
          have hb9 : Blk w9 g8 [.int .u32 x.1, .slice ob x.2.length cb] _ := (hb7.chg hc8 fun h => h).chg hc9 fun h => by have := (hlt6 g8 h).2; omega
          have hall9 : Chg (fun g => w.heap.size ≤ g) w w9 := ((hc04.trans hc7 fun _ _ h => h.elim).trans hc8 fun _ _ h => h.elim).trans hc9 fun k _ h => (hlt6 k h).1
          have hx9 : BytesAt w9 (fun g => G' g ∧ g < w.heap.size) ob x.2 := hx4.stay ⟨fun k hk hg => ⟨hall9.block k hk (by omega), hg, hk⟩⟩
          have q9 : TgL w9 (fun g => G' g ∧ g < w.heap.size) acc cs0 := q2.stay (Stay.of hc9 fun k hk _ h => by have := (hlt6 k h).1; have := hk.2; omega)
          have tcell : ∀ r z, acc[r]? = some z → ∃ o1 c1, (cs0.drop (r * 2)).take 2 = [.int .u32 z.1, .slice o1 z.2.length c1] := fun r z hz => by
            obtain ⟨⟨o1, c1, h1, _⟩, _⟩ := q2.get hz
            exact ⟨o1, c1, h1⟩
          refine wp_seq_k fun K6 hK6 => ?_
          refine wp_seq_k fun K hK => ?_; refine wp_reg ?_
          (repeat (first | ((first | (with_reducible first | refine wl_move ?_ | refine wl_assign ?_ | refine wl_add ?_ ?_ | refine wl_sub ?_ ?_ | refine wl_lss ?_ ?_ | refine wl_leq ?_ ?_ | refine wl_gtr ?_ ?_ | refine wl_geq ?_ ?_ | refine wl_eql ?_ ?_ | refine wl_neq ?_ ?_ | refine wl_not ?_ ?_ | refine wl_shr ?_ ?_ ?_ | refine wl_and127 ?_ ?_ | refine wl_or128 ?_ ?_ ?_) | ((with_reducible refine wl_conv ?_ ?_ ?_ ?_); (· kernel_rfl); (· kernel_rfl)) | ((with_reducible refine wl_len ?_ ?_ ?_); rotate_left 1; (· simp [evb, kb, hN, sdb]); rotate_left 1; (· kernel_rfl)) | ((with_reducible refine wl_lenS ?_ ?_ ?_); rotate_left 1; (· simp [evb, kb, hN, sdb]); rotate_left 1; (· kernel_rfl))) <;> (first | (with_reducible refine wl_id ?_; try simp only [evb, kb, hN, Nat.reduceLT, Nat.reduceEqDiff, reduceIte, Int.reduceToNat, Int.reduceBEq]) | (simp [evb, kb, hN, sdb] <;> omega)))))
          have hn1 : IntKind.i64.wrap (((acc.length + 1 : Nat) : Int) - 1) = ((acc.length : Nat) : Int) := by rw [i64_id _ (by omega)]; omega
          rw [hn1]
          refine wl_nil ?_; refine hK _ _ ?_; clear hK K
          refine wp_block ?_
          refine wp_loop (fun a' w' => ∃ (q : Nat) (C' : List Value), a'.tmps.size = 85 ∧ a'.defers = [] ∧ get a' 17 = .slice (some ⟨b, o, none⟩) ts.length ct ∧ get a' 5 = .int .u32 k ∧ get a' 6 = .slice (some ⟨g, 0, none⟩) (acc.length + 1) cap8 ∧ get a' 8 = .pointer (some ⟨g8, 0, none⟩) ∧ get a' 9 = .int .i64 j ∧ get a' 18 = .int .i64 ts.length ∧
            get a' 19 = .int .i64 i ∧ get a' 10 = .int .i64 q ∧ j ≤ q ∧ q ≤ acc.length ∧ Blk w' g C' tTg ∧ C'.length = C.length ∧ (∀ r, r < q * 2 → C'[r]? = cs0[r]?) ∧ (∀ r, q * 2 ≤ r → r < acc.length * 2 → C'[r + 2]? = cs0[r]?) ∧ Chg (fun k => k = g) w9 w') (fun a' _ => (intOf (get a' 10)).toNat)
            ⟨acc.length, C, by simp only [evb, kb, hN, Nat.reduceLT, Nat.reduceEqDiff, reduceIte, Int.reduceToNat, Int.reduceBEq], by simp [defers_put, hD], by simp only [evb, kb, hN, Nat.reduceLT, Nat.reduceEqDiff, reduceIte, Int.reduceToNat, Int.reduceBEq, g17], by simp only [evb, kb, hN, Nat.reduceLT, Nat.reduceEqDiff, reduceIte, Int.reduceToNat, Int.reduceBEq, g5], by simp only [evb, kb, hN, Nat.reduceLT, Nat.reduceEqDiff, reduceIte, Int.reduceToNat, Int.reduceBEq], by simp only [evb, kb, hN, Nat.reduceLT, Nat.reduceEqDiff, reduceIte, Int.reduceToNat, Int.reduceBEq, g8'], by simp only [evb, kb, hN, Nat.reduceLT, Nat.reduceEqDiff, reduceIte, Int.reduceToNat, Int.reduceBEq, g9], by simp only [evb, kb, hN, Nat.reduceLT, Nat.reduceEqDiff, reduceIte, Int.reduceToNat, Int.reduceBEq, g18], by simp only [evb, kb, hN, Nat.reduceLT, Nat.reduceEqDiff, reduceIte, Int.reduceToNat, Int.reduceBEq, g19], by simp only [evb, kb, hN, Nat.reduceLT, Nat.reduceEqDiff, reduceIte, Int.reduceToNat, Int.reduceBEq], by omega, Nat.le_refl _, hbC, rfl, hCn, fun r h1 h2 => by omega, Chg.refl _ _⟩ ?_
          clear hN hD g17 g5 g6 g8' g9 g18 g19
          rintro a6 w10 ⟨q, C', hN, hD, g17, g5, g6, g8', g9, g18, g19, g10, hjq, hqn, hbC', hlC', hlow, hhigh, hc10⟩
          refine wp_seq_k fun K hK => ?_; refine wp_seq_k fun K hK => ?_; refine wp_reg ?_
          (repeat (first | ((first | (with_reducible first | refine wl_move ?_ | refine wl_assign ?_ | refine wl_add ?_ ?_ | refine wl_sub ?_ ?_ | refine wl_lss ?_ ?_ | refine wl_leq ?_ ?_ | refine wl_gtr ?_ ?_ | refine wl_geq ?_ ?_ | refine wl_eql ?_ ?_ | refine wl_neq ?_ ?_ | refine wl_not ?_ ?_ | refine wl_shr ?_ ?_ ?_ | refine wl_and127 ?_ ?_ | refine wl_or128 ?_ ?_ ?_) | ((with_reducible refine wl_conv ?_ ?_ ?_ ?_); (· kernel_rfl); (· kernel_rfl)) | ((with_reducible refine wl_len ?_ ?_ ?_); rotate_left 1; (· simp [evb, kb, hN, g9, g10, sdb]); rotate_left 1; (· kernel_rfl)) | ((with_reducible refine wl_lenS ?_ ?_ ?_); rotate_left 1; (· simp [evb, kb, hN, g9, g10, sdb]); rotate_left 1; (· kernel_rfl))) <;> (first | (with_reducible refine wl_id ?_; try simp only [evb, kb, hN, Nat.reduceLT, Nat.reduceEqDiff, reduceIte, Int.reduceToNat, Int.reduceBEq, g9, g10]) | (simp [evb, kb, hN, g9, g10, sdb] <;> omega)))))
          by_cases hjq2 : j < q
          · have d3 : decide ((j : Int) < (q : Int)) = true := decide_eq_true (by omega)
            refine wl_nil ?_; refine hK _ _ ?_; clear hK K
            refine wp_cond_true (by simp [evb, kb, hN, sdb]; omega) ?_
            refine wp_skip (hK _ _ ?_)
            clear hK K
            refine wp_seq_k fun K hK => ?_; refine wp_block ?_
            refine wp_reg ?_
            (repeat (first | ((first | (with_reducible first | refine wl_move ?_ | refine wl_assign ?_ | refine wl_add ?_ ?_ | refine wl_sub ?_ ?_ | refine wl_lss ?_ ?_ | refine wl_leq ?_ ?_ | refine wl_gtr ?_ ?_ | refine wl_geq ?_ ?_ | refine wl_eql ?_ ?_ | refine wl_neq ?_ ?_ | refine wl_not ?_ ?_ | refine wl_shr ?_ ?_ ?_ | refine wl_and127 ?_ ?_ | refine wl_or128 ?_ ?_ ?_) | ((with_reducible refine wl_conv ?_ ?_ ?_ ?_); (· kernel_rfl); (· kernel_rfl)) | ((with_reducible refine wl_len ?_ ?_ ?_); rotate_left 1; (· simp [evb, kb, hN, g6, g10, sdb]); rotate_left 1; (· kernel_rfl)) | ((with_reducible refine wl_lenS ?_ ?_ ?_); rotate_left 1; (· simp [evb, kb, hN, g6, g10, sdb]); rotate_left 1; (· kernel_rfl))) <;> (first | (with_reducible refine wl_id ?_; try simp only [evb, kb, hN, Nat.reduceLT, Nat.reduceEqDiff, reduceIte, Int.reduceToNat, Int.reduceBEq, g6, g10]) | (simp [evb, kb, hN, g6, g10, sdb] <;> omega)))))
            have hq1 : IntKind.i64.wrap ((q : Int) - 1) = ((q - 1 : Nat) : Int) := by rw [i64_id _ (by omega)]; omega
            rw [hq1]
            obtain ⟨z, hz⟩ : ∃ z, acc[q - 1]? = some z := ⟨_, List.getElem?_eq_getElem (by omega)⟩
            obtain ⟨o1', c1', hcell⟩ := tcell _ z hz
            have hseg : (C'.drop (0 + (q - 1) * 2)).take 2 = [.int .u32 z.1, .slice o1' z.2.length c1'] := by
              rw [← hcell]
              exact seg_ext fun r hr => by rw [Nat.zero_add]; exact hlow _ (by omega)
            refine wl_indexAddr (b := g) (o := 0) (k := .i64) (i := q - 1) (n := 2) (len := acc.length + 1) (cap := cap8) (by kernel_rfl) (by simp [evb, kb, hN, g6, sdb]) (by simp [evb, kb, hN, sdb]) (by omega) ?_
            refine wl_loadAgg (b := g) (o := 0 + (q - 1) * 2) (n := 2) (by kernel_rfl) (by kernel_rfl) (by simp [evb, kb, hN, sdb]) hbC' (by omega) ?_
            rw [hseg]
            refine wl_indexAddr (b := g) (o := 0) (k := .i64) (i := q) (n := 2) (len := acc.length + 1) (cap := cap8) (by kernel_rfl) (by simp [evb, kb, hN, g6, sdb]) (by simp [evb, kb, hN, g10, sdb]) (by omega) ?_
            refine wl_store (b := g) (o := 0 + q * 2) (n := 2) (v := .agg #[.int .u32 z.1, .slice o1' z.2.length c1']) (by kernel_rfl) (by simp [evb, kb, hN, sdb]) (by simp [evb, kb, hN, sdb]) hbC' rfl (by intro u hu; simp only [Value.cells, List.mem_cons, List.not_mem_nil, or_false] at hu; rcases hu with rfl | rfl <;> rfl) (by omega) fun w11 hb11 hc11 => ?_
            change Blk w11 g (splice C' (0 + q * 2) [.int .u32 z.1, .slice o1' z.2.length c1']) _ at hb11
            rw [Nat.zero_add] at hb11
            refine wl_nil ?_; refine hK _ _ ?_; clear hK K
            refine wp_reg ?_
            (repeat (first | ((first | (with_reducible first | refine wl_move ?_ | refine wl_assign ?_ | refine wl_add ?_ ?_ | refine wl_sub ?_ ?_ | refine wl_lss ?_ ?_ | refine wl_leq ?_ ?_ | refine wl_gtr ?_ ?_ | refine wl_geq ?_ ?_ | refine wl_eql ?_ ?_ | refine wl_neq ?_ ?_ | refine wl_not ?_ ?_ | refine wl_shr ?_ ?_ ?_ | refine wl_and127 ?_ ?_ | refine wl_or128 ?_ ?_ ?_) | ((with_reducible refine wl_conv ?_ ?_ ?_ ?_); (· kernel_rfl); (· kernel_rfl)) | ((with_reducible refine wl_len ?_ ?_ ?_); rotate_left 1; (· simp [evb, kb, hN, g10, sdb]); rotate_left 1; (· kernel_rfl)) | ((with_reducible refine wl_lenS ?_ ?_ ?_); rotate_left 1; (· simp [evb, kb, hN, g10, sdb]); rotate_left 1; (· kernel_rfl))) <;> (first | (with_reducible refine wl_id ?_; try simp only [evb, kb, hN, Nat.reduceLT, Nat.reduceEqDiff, reduceIte, Int.reduceToNat, Int.reduceBEq, g10]) | (simp [evb, kb, hN, g10, sdb] <;> omega)))))
            rw [hq1]
            have hsl : q * 2 + ([.int .u32 z.1, .slice o1' z.2.length c1'] : List Value).length ≤ C'.length := by simp only [List.length_cons, List.length_nil]; omega
            refine wl_nil ⟨⟨q - 1, _, by simp only [evb, kb, hN, Nat.reduceLT, Nat.reduceEqDiff, reduceIte, Int.reduceToNat, Int.reduceBEq], by simp [defers_put, hD], by simp only [evb, kb, hN, Nat.reduceLT, Nat.reduceEqDiff, reduceIte, Int.reduceToNat, Int.reduceBEq, g17], by simp only [evb, kb, hN, Nat.reduceLT, Nat.reduceEqDiff, reduceIte, Int.reduceToNat, Int.reduceBEq, g5], by simp only [evb, kb, hN, Nat.reduceLT, Nat.reduceEqDiff, reduceIte, Int.reduceToNat, Int.reduceBEq, g6], by simp only [evb, kb, hN, Nat.reduceLT, Nat.reduceEqDiff, reduceIte, Int.reduceToNat, Int.reduceBEq, g8'], by simp only [evb, kb, hN, Nat.reduceLT, Nat.reduceEqDiff, reduceIte, Int.reduceToNat, Int.reduceBEq, g9], by simp only [evb, kb, hN, Nat.reduceLT, Nat.reduceEqDiff, reduceIte, Int.reduceToNat, Int.reduceBEq, g18], by simp only [evb, kb, hN, Nat.reduceLT, Nat.reduceEqDiff, reduceIte, Int.reduceToNat, Int.reduceBEq, g19], by simp only [evb, kb, hN, Nat.reduceLT, Nat.reduceEqDiff, reduceIte, Int.reduceToNat, Int.reduceBEq], by omega, by omega, hb11, (splice_length hsl).trans hlC', fun r hr => ?_, fun r h1 h2 => ?_, hc10.trans hc11 fun _ _ h => h⟩, ?_⟩
            · rw [splice_below hsl (by omega)]; exact hlow r (by omega)
            · by_cases h3 : r < q * 2
              · obtain ⟨d, rfl⟩ : ∃ d, r = (q - 1) * 2 + d := ⟨r - (q - 1) * 2, by omega⟩
                rw [show (q - 1) * 2 + d + 2 = q * 2 + d by omega, spl_mid hsl (by simp only [List.length_cons, List.length_nil]; omega), ← hcell, seg_get (by omega)]
              · rw [splice_above hsl (by simp only [List.length_cons, List.length_nil]; omega)]
                exact hhigh r (by omega) h2
            · simp only [evb, kb, hN, Nat.reduceLT, Nat.reduceEqDiff, reduceIte, Int.reduceToNat, Int.reduceBEq, g10]
              simp only [intOf]
              omega
          · have d3 : decide ((j : Int) < (q : Int)) = false := decide_eq_false (by omega)
            refine wl_nil ?_; refine hK _ _ ?_; clear hK K
            refine wp_cond_false (by simp [evb, kb, hN, sdb]; omega) ?_
            refine wp_exit ?_
            simp only [Exit.then, Exit.inBlock, if_pos]
            have ejq : q = j := by omega
            subst ejq
            refine hK6 _ _ ?_
            refine wp_reg ?_
            have hne : w10 = w10 := rfl
            have hb10 : Blk w10 g8 [.int .u32 x.1, .slice ob x.2.length cb] _ := hb9.chg hc10 fun h => hgg8 h.symm
            (repeat (first | ((first | (with_reducible first | refine wl_move ?_ | refine wl_assign ?_ | refine wl_add ?_ ?_ | refine wl_sub ?_ ?_ | refine wl_lss ?_ ?_ | refine wl_leq ?_ ?_ | refine wl_gtr ?_ ?_ | refine wl_geq ?_ ?_ | refine wl_eql ?_ ?_ | refine wl_neq ?_ ?_ | refine wl_not ?_ ?_ | refine wl_shr ?_ ?_ ?_ | refine wl_and127 ?_ ?_ | refine wl_or128 ?_ ?_ ?_) | ((with_reducible refine wl_conv ?_ ?_ ?_ ?_); (· kernel_rfl); (· kernel_rfl)) | ((with_reducible refine wl_len ?_ ?_ ?_); rotate_left 1; (· simp [evb, kb, hN, g6, g9, sdb]); rotate_left 1; (· kernel_rfl)) | ((with_reducible refine wl_lenS ?_ ?_ ?_); rotate_left 1; (· simp [evb, kb, hN, g6, g9, sdb]); rotate_left 1; (· kernel_rfl))) <;> (first | (with_reducible refine wl_id ?_; try simp only [evb, kb, hN, Nat.reduceLT, Nat.reduceEqDiff, reduceIte, Int.reduceToNat, Int.reduceBEq, g6, g9]) | (simp [evb, kb, hN, g6, g9, sdb] <;> omega)))))
            refine wl_loadAgg (b := g8) (o := 0) (n := 2) (by kernel_rfl) (by kernel_rfl) (by simp [evb, kb, hN, g8', sdb]) hb10 (by simp) ?_
            rw [show (([.int .u32 x.1, .slice ob x.2.length cb] : List Value).drop 0).take 2 = [.int .u32 x.1, .slice ob x.2.length cb] from rfl]
            refine wl_indexAddr (b := g) (o := 0) (k := .i64) (i := q) (n := 2) (len := acc.length + 1) (cap := cap8) (by kernel_rfl) (by simp [evb, kb, hN, g6, sdb]) (by simp [evb, kb, hN, g9, sdb]) (by omega) ?_
            refine wl_store (b := g) (o := 0 + q * 2) (n := 2) (v := .agg #[.int .u32 x.1, .slice ob x.2.length cb]) (by kernel_rfl) (by simp [evb, kb, hN, sdb]) (by simp [evb, kb, hN, sdb]) hbC' rfl (by intro u hu; simp only [Value.cells, List.mem_cons, List.not_mem_nil, or_false] at hu; rcases hu with rfl | rfl <;> rfl) (by omega) fun w11 hb11 hc11 => ?_
            change Blk w11 g (splice C' (0 + q * 2) [.int .u32 x.1, .slice ob x.2.length cb]) _ at hb11
            rw [Nat.zero_add] at hb11
            have hsl : q * 2 + ([.int .u32 x.1, .slice ob x.2.length cb] : List Value).length ≤ C'.length := by simp only [List.length_cons, List.length_nil]; omega
            have hl' : (acc.take q ++ x :: acc.drop q).length = acc.length + 1 := by simp; omega
            have hcg : Chg (fun k => k = g) w9 w11 := hc10.trans hc11 fun _ _ h => h
            have stG : Stay w9 w11 (fun g => G' g ∧ g < w.heap.size) (fun g => G' g ∧ g < w.heap.size) := Stay.of hcg fun k hk _ h => by have := hk.2; omega
            refine wl_nil ⟨⟨acc.take q ++ x :: acc.drop q, .slice (some ⟨g, 0, none⟩) (acc.length + 1) cap8, by simp only [evb, kb, hN, Nat.reduceLT, Nat.reduceEqDiff, reduceIte, Int.reduceToNat, Int.reduceBEq], by simp [defers_put, hD], by simp only [evb, kb, hN, Nat.reduceLT, Nat.reduceEqDiff, reduceIte, Int.reduceToNat, Int.reduceBEq, g17], by simp only [evb, kb, hN, Nat.reduceLT, Nat.reduceEqDiff, reduceIte, Int.reduceToNat, Int.reduceBEq, g5], by simp only [evb, kb, hN, Nat.reduceLT, Nat.reduceEqDiff, reduceIte, Int.reduceToNat, Int.reduceBEq, g6], by omega, ⟨(splice C' (q * 2) [.int .u32 x.1, .slice ob x.2.length cb]).take ((acc.length + 1) * 2), ⟨?_, .inr ⟨g, cap8, (splice C' (q * 2) [.int .u32 x.1, .slice ob x.2.length cb]).toArray, by rw [hl'], hbg, hb11, by rw [hl']; exact hn9, hcm, ?_, by rw [hl']⟩⟩, TgL.of fun r z hz => ?_⟩, hdrop, hall9.trans hcg fun k _ h => by rw [h]; exact hbg⟩, by simp only [evb, kb, hN, Nat.reduceLT, Nat.reduceEqDiff, reduceIte, Int.reduceToNat, Int.reduceBEq, g18], by simp only [evb, kb, hN, Nat.reduceLT, Nat.reduceEqDiff, reduceIte, Int.reduceToNat, Int.reduceBEq, g19]⟩
            · rw [hl', List.length_take, splice_length hsl]; omega
            · rw [List.size_toArray, splice_length hsl]; omega
            · have hr : r < acc.length + 1 := by rw [← hl']; exact (List.getElem?_eq_some_iff.1 hz).1
              have seg : ∀ (D : List Value) (lo : Nat), (∀ d, d < 2 → (splice C' (q * 2) [.int .u32 x.1, .slice ob x.2.length cb])[r * 2 + d]? = D[lo + d]?) → (((splice C' (q * 2) [.int .u32 x.1, .slice ob x.2.length cb]).take ((acc.length + 1) * 2)).drop (r * 2)).take 2 = (D.drop lo).take 2 := fun D lo h => seg_ext fun d hd => by rw [List.getElem?_take_of_lt (by omega)]; exact h d hd
              by_cases h1 : r < q
              · rw [List.getElem?_append_left (by rw [List.length_take]; omega), List.getElem?_take_of_lt h1] at hz
                rw [seg cs0 (r * 2) fun d hd => by rw [splice_below hsl (by omega)]; exact hlow _ (by omega)]
                exact ((q9.stay stG).get hz).1
              · by_cases h2 : r = q
                · subst h2
                  rw [List.getElem?_append_right (by rw [List.length_take]; omega), List.length_take, Nat.min_eq_left hqn, Nat.sub_self] at hz
                  simp only [List.getElem?_cons_zero, Option.some.injEq] at hz
                  subst hz
                  rw [seg [.int .u32 x.1, .slice ob x.2.length cb] 0 fun d hd => by rw [spl_mid hsl (by simp only [List.length_cons, List.length_nil]; omega), Nat.zero_add]]
                  exact ⟨ob, cb, rfl, hx2, hx3, hx9.stay stG⟩
                · obtain ⟨r', rfl⟩ : ∃ r', r = r' + 1 := ⟨r - 1, by omega⟩
                  rw [List.getElem?_append_right (by rw [List.length_take]; omega), List.length_take, Nat.min_eq_left hqn, show r' + 1 - q = (r' - q) + 1 by omega, List.getElem?_cons_succ, List.getElem?_drop, show q + (r' - q) = r' by omega] at hz
                  rw [seg cs0 (r' * 2) fun d hd => by rw [splice_above hsl (by simp only [List.length_cons, List.length_nil]; omega), show (r' + 1) * 2 + d = (r' * 2 + d) + 2 by omega]; exact hhigh _ (by omega) (by omega)]
                  exact ((q9.stay stG).get hz).1
        by_cases hjn : j < acc.length
        · obtain ⟨y, hy⟩ : ∃ y, acc[j]? = some y := ⟨_, List.getElem?_eq_getElem hjn⟩
          obtain ⟨g, cap', C, hv6', hg, hbC, hlC, htC⟩ := hU6.some (by omega)
          rw [hv6] at hv6'
          obtain ⟨rfl, rfl⟩ : oa6 = some ⟨g, 0, none⟩ ∧ cap6 = cap' := by simpa using hv6'
          have lC := hbC.ld (htC.key hy)
          have lC1 := lC.1
          have d1 : decide ((j : Int) < (acc.length : Int)) = true := decide_eq_true (by omega)
          (repeat (first | (refine wf_p rfl rfl ?_ ?_ ?_ ?_; (· first | exact rdX_no | (refine ⟨?_⟩; simp [rxb]; done)); (· simp [evb, pvb, rnb, kb, hN, Nat.reduceLT, Nat.reduceEqDiff, reduceIte, Int.reduceToNat, Int.reduceBEq, Nat.reduceAdd, g6, g9, g8', g5, lC, l8, e2, o0, o1, d1, d2, Nat.add_zero, dyb, sdb] <;> omega); (· kernel_rfl); try simp only [evb, pvb, rnb, kb, hN, Nat.reduceLT, Nat.reduceEqDiff, reduceIte, Int.reduceToNat, Int.reduceBEq, Nat.reduceAdd, g6, g9, g8', g5, lC, l8, e2, o0, o1, d1, d2, Nat.add_zero]) | (refine wf_pg rfl rfl rfl ?_ rfl ?_ ?_ ?_ ?_; (· simp [evb, pvb, rnb, kb, hN, Nat.reduceLT, Nat.reduceEqDiff, reduceIte, Int.reduceToNat, Int.reduceBEq, Nat.reduceAdd, g6, g9, g8', g5, lC, l8, e2, o0, o1, d1, d2, Nat.add_zero]; done); (· first | exact rdX_no | (refine ⟨?_⟩; simp [rxb]; done)); (· simp [evb, pvb, rnb, kb, hN, Nat.reduceLT, Nat.reduceEqDiff, reduceIte, Int.reduceToNat, Int.reduceBEq, Nat.reduceAdd, g6, g9, g8', g5, lC, l8, e2, o0, o1, d1, d2, Nat.add_zero, dyb, sdb] <;> omega); (· kernel_rfl); try simp only [evb, pvb, rnb, kb, hN, Nat.reduceLT, Nat.reduceEqDiff, reduceIte, Int.reduceToNat, Int.reduceBEq, Nat.reduceAdd, g6, g9, g8', g5, lC, l8, e2, o0, o1, d1, d2, Nat.add_zero]) | (refine wf_gno rfl rfl rfl ?_ ?_; (· simp [evb, pvb, rnb, kb, hN, Nat.reduceLT, Nat.reduceEqDiff, reduceIte, Int.reduceToNat, Int.reduceBEq, Nat.reduceAdd, g6, g9, g8', g5, lC, l8, e2, o0, o1, d1, d2, Nat.add_zero]; done); try simp only [evb, pvb, rnb, kb, hN, Nat.reduceLT, Nat.reduceEqDiff, reduceIte, Int.reduceToNat, Int.reduceBEq, Nat.reduceAdd, g6, g9, g8', g5, lC, l8, e2, o0, o1, d1, d2, Nat.add_zero]) | (refine wf_gnoU rfl rfl rfl ?_ ?_; (· simp [evb, pvb, rnb, kb, hN, Nat.reduceLT, Nat.reduceEqDiff, reduceIte, Int.reduceToNat, Int.reduceBEq, Nat.reduceAdd, g6, g9, g8', g5, lC, l8, e2, o0, o1, d1, d2, Nat.add_zero]; done); try simp only [evb, pvb, rnb, kb, hN, Nat.reduceLT, Nat.reduceEqDiff, reduceIte, Int.reduceToNat, Int.reduceBEq, Nat.reduceAdd, g6, g9, g8', g5, lC, l8, e2, o0, o1, d1, d2, Nat.add_zero])))
          refine wf_nil (by decide) ?_
          refine hK5 _ _ ?_
          by_cases heq : y.1 = x.1
          · refine wp_cond_true (by simp only [evb, pvb, rnb, kb, hN, Nat.reduceLT, Nat.reduceEqDiff, reduceIte, Int.reduceToNat, Int.reduceBEq, Nat.reduceAdd]; erw [lC1]; simp [cmp2, heq]) ?_
            refine wp_exit ?_
            rw [unkIns_old x (by rw [← hjp]; exact hy) heq] at hdrop
            refine ⟨rfl, ⟨acc, v6, by simp only [evb, kb, hN, Nat.reduceLT, Nat.reduceEqDiff, reduceIte, Int.reduceToNat, Int.reduceBEq], by simp [defers_put, hD], by simp only [evb, pvb, rnb, kb, hN, Nat.reduceLT, Nat.reduceEqDiff, reduceIte, Int.reduceToNat, Int.reduceBEq, Nat.reduceAdd, g17], by simp only [evb, pvb, rnb, kb, hN, Nat.reduceLT, Nat.reduceEqDiff, reduceIte, Int.reduceToNat, Int.reduceBEq, Nat.reduceAdd, g5], by simp only [evb, pvb, rnb, kb, hN, Nat.reduceLT, Nat.reduceEqDiff, reduceIte, Int.reduceToNat, Int.reduceBEq, Nat.reduceAdd, g6, hv6], by omega, hU6.chg (Chg.drew (fun _ => False) _) (fun _ _ _ h => h) hGlt (fun _ _ h => h), hdrop, ((hc04.trans hc6 fun _ _ h => h.elim).trans (Chg.drew (fun _ => False) _) fun _ _ h => h.elim)⟩, by simp only [evb, pvb, rnb, kb, hN, Nat.reduceLT, Nat.reduceEqDiff, reduceIte, Int.reduceToNat, Int.reduceBEq, Nat.reduceAdd, g18], by simp only [evb, pvb, rnb, kb, hN, Nat.reduceLT, Nat.reduceEqDiff, reduceIte, Int.reduceToNat, Int.reduceBEq, Nat.reduceAdd, g19]⟩
          · refine wp_cond_false (by simp only [evb, pvb, rnb, kb, hN, Nat.reduceLT, Nat.reduceEqDiff, reduceIte, Int.reduceToNat, Int.reduceBEq, Nat.reduceAdd]; erw [lC1]; simp [cmp2]; omega) ?_
            refine wp_skip (ins _ _ (by simp only [evb, kb, hN, Nat.reduceLT, Nat.reduceEqDiff, reduceIte, Int.reduceToNat, Int.reduceBEq]) (by simp [defers_put, hD]) (by simp only [evb, pvb, rnb, kb, hN, Nat.reduceLT, Nat.reduceEqDiff, reduceIte, Int.reduceToNat, Int.reduceBEq, Nat.reduceAdd, g17]) (by simp only [evb, pvb, rnb, kb, hN, Nat.reduceLT, Nat.reduceEqDiff, reduceIte, Int.reduceToNat, Int.reduceBEq, Nat.reduceAdd, g5]) (by simp only [evb, pvb, rnb, kb, hN, Nat.reduceLT, Nat.reduceEqDiff, reduceIte, Int.reduceToNat, Int.reduceBEq, Nat.reduceAdd, g6, hv6]) (by simp only [evb, pvb, rnb, kb, hN, Nat.reduceLT, Nat.reduceEqDiff, reduceIte, Int.reduceToNat, Int.reduceBEq, Nat.reduceAdd, g8']) (by simp only [evb, pvb, rnb, kb, hN, Nat.reduceLT, Nat.reduceEqDiff, reduceIte, Int.reduceToNat, Int.reduceBEq, Nat.reduceAdd, g9]) (by simp only [evb, pvb, rnb, kb, hN, Nat.reduceLT, Nat.reduceEqDiff, reduceIte, Int.reduceToNat, Int.reduceBEq, Nat.reduceAdd, g18]) (by simp only [evb, pvb, rnb, kb, hN, Nat.reduceLT, Nat.reduceEqDiff, reduceIte, Int.reduceToNat, Int.reduceBEq, Nat.reduceAdd, g19]) (fun z hz => ?_) (hc6.trans (Chg.drew _ _) fun _ _ h => h))
            rw [← hjp, hy] at hz
            cases hz
            exact heq
        · have d1 : decide ((j : Int) < (acc.length : Int)) = false := decide_eq_false (by omega)
          (repeat (first | (refine wf_p rfl rfl ?_ ?_ ?_ ?_; (· first | exact rdX_no | (refine ⟨?_⟩; simp [rxb]; done)); (· simp [evb, pvb, rnb, kb, hN, Nat.reduceLT, Nat.reduceEqDiff, reduceIte, Int.reduceToNat, Int.reduceBEq, Nat.reduceAdd, g6, g9, g8', g5, l8, e2, o0, o1, d1, d2, Nat.add_zero, dyb, sdb] <;> omega); (· kernel_rfl); try simp only [evb, pvb, rnb, kb, hN, Nat.reduceLT, Nat.reduceEqDiff, reduceIte, Int.reduceToNat, Int.reduceBEq, Nat.reduceAdd, g6, g9, g8', g5, l8, e2, o0, o1, d1, d2, Nat.add_zero]) | (refine wf_pg rfl rfl rfl ?_ rfl ?_ ?_ ?_ ?_; (· simp [evb, pvb, rnb, kb, hN, Nat.reduceLT, Nat.reduceEqDiff, reduceIte, Int.reduceToNat, Int.reduceBEq, Nat.reduceAdd, g6, g9, g8', g5, l8, e2, o0, o1, d1, d2, Nat.add_zero]; done); (· first | exact rdX_no | (refine ⟨?_⟩; simp [rxb]; done)); (· simp [evb, pvb, rnb, kb, hN, Nat.reduceLT, Nat.reduceEqDiff, reduceIte, Int.reduceToNat, Int.reduceBEq, Nat.reduceAdd, g6, g9, g8', g5, l8, e2, o0, o1, d1, d2, Nat.add_zero, dyb, sdb] <;> omega); (· kernel_rfl); try simp only [evb, pvb, rnb, kb, hN, Nat.reduceLT, Nat.reduceEqDiff, reduceIte, Int.reduceToNat, Int.reduceBEq, Nat.reduceAdd, g6, g9, g8', g5, l8, e2, o0, o1, d1, d2, Nat.add_zero]) | (refine wf_gno rfl rfl rfl ?_ ?_; (· simp [evb, pvb, rnb, kb, hN, Nat.reduceLT, Nat.reduceEqDiff, reduceIte, Int.reduceToNat, Int.reduceBEq, Nat.reduceAdd, g6, g9, g8', g5, l8, e2, o0, o1, d1, d2, Nat.add_zero]; done); try simp only [evb, pvb, rnb, kb, hN, Nat.reduceLT, Nat.reduceEqDiff, reduceIte, Int.reduceToNat, Int.reduceBEq, Nat.reduceAdd, g6, g9, g8', g5, l8, e2, o0, o1, d1, d2, Nat.add_zero]) | (refine wf_gnoU rfl rfl rfl ?_ ?_; (· simp [evb, pvb, rnb, kb, hN, Nat.reduceLT, Nat.reduceEqDiff, reduceIte, Int.reduceToNat, Int.reduceBEq, Nat.reduceAdd, g6, g9, g8', g5, l8, e2, o0, o1, d1, d2, Nat.add_zero]; done); try simp only [evb, pvb, rnb, kb, hN, Nat.reduceLT, Nat.reduceEqDiff, reduceIte, Int.reduceToNat, Int.reduceBEq, Nat.reduceAdd, g6, g9, g8', g5, l8, e2, o0, o1, d1, d2, Nat.add_zero])))
          refine wf_nil (by decide) ?_
          refine hK5 _ _ ?_
          refine wp_cond_false (by simp only [evb, pvb, rnb, kb, hN, Nat.reduceLT, Nat.reduceEqDiff, reduceIte, Int.reduceToNat, Int.reduceBEq, Nat.reduceAdd]) ?_
          refine wp_skip (ins _ _ (by simp only [evb, kb, hN, Nat.reduceLT, Nat.reduceEqDiff, reduceIte, Int.reduceToNat, Int.reduceBEq]) (by simp [defers_put, hD]) (by simp only [evb, pvb, rnb, kb, hN, Nat.reduceLT, Nat.reduceEqDiff, reduceIte, Int.reduceToNat, Int.reduceBEq, Nat.reduceAdd, g17]) (by simp only [evb, pvb, rnb, kb, hN, Nat.reduceLT, Nat.reduceEqDiff, reduceIte, Int.reduceToNat, Int.reduceBEq, Nat.reduceAdd, g5]) (by simp only [evb, pvb, rnb, kb, hN, Nat.reduceLT, Nat.reduceEqDiff, reduceIte, Int.reduceToNat, Int.reduceBEq, Nat.reduceAdd, g6, hv6]) (by simp only [evb, pvb, rnb, kb, hN, Nat.reduceLT, Nat.reduceEqDiff, reduceIte, Int.reduceToNat, Int.reduceBEq, Nat.reduceAdd, g8']) (by simp only [evb, pvb, rnb, kb, hN, Nat.reduceLT, Nat.reduceEqDiff, reduceIte, Int.reduceToNat, Int.reduceBEq, Nat.reduceAdd, g9]) (by simp only [evb, pvb, rnb, kb, hN, Nat.reduceLT, Nat.reduceEqDiff, reduceIte, Int.reduceToNat, Int.reduceBEq, Nat.reduceAdd, g18]) (by simp only [evb, pvb, rnb, kb, hN, Nat.reduceLT, Nat.reduceEqDiff, reduceIte, Int.reduceToNat, Int.reduceBEq, Nat.reduceAdd, g19]) (fun z hz => ?_) (hc6.trans (Chg.drew _ _) fun _ _ h => h))
          rw [List.getElem?_eq_none (by omega)] at hz
          cases hz
    by_cases hjn : j < acc.length
    · obtain ⟨y, hy⟩ : ∃ y, acc[j]? = some y := ⟨_, List.getElem?_eq_getElem hjn⟩
      obtain ⟨g, cap', C, hv6', hg, hbC, hlC, htC⟩ := hU5.some (by omega)
      rw [hv6] at hv6'
      obtain ⟨rfl, rfl⟩ : oa6 = some ⟨g, 0, none⟩ ∧ cap6 = cap' := by simpa using hv6'
      have lC := hbC.ld (htC.key hy)
      have d1 : decide ((j : Int) < (acc.length : Int)) = true := decide_eq_true (by omega)
      (repeat (first | (refine wf_p rfl rfl ?_ ?_ ?_ ?_; (· first | exact rdX_no | (refine ⟨?_⟩; simp [rxb]; done)); (· simp [evb, pvb, rnb, kb, hN, Nat.reduceLT, Nat.reduceEqDiff, reduceIte, Int.reduceToNat, Int.reduceBEq, Nat.reduceAdd, g6, g9, g8', lC, l8, e2, o0, o1, d1, Nat.add_zero, dyb, sdb] <;> omega); (· kernel_rfl); try simp only [evb, pvb, rnb, kb, hN, Nat.reduceLT, Nat.reduceEqDiff, reduceIte, Int.reduceToNat, Int.reduceBEq, Nat.reduceAdd, g6, g9, g8', lC, l8, e2, o0, o1, d1, Nat.add_zero]) | (refine wf_pg rfl rfl rfl ?_ rfl ?_ ?_ ?_ ?_; (· simp [evb, pvb, rnb, kb, hN, Nat.reduceLT, Nat.reduceEqDiff, reduceIte, Int.reduceToNat, Int.reduceBEq, Nat.reduceAdd, g6, g9, g8', lC, l8, e2, o0, o1, d1, Nat.add_zero]; done); (· first | exact rdX_no | (refine ⟨?_⟩; simp [rxb]; done)); (· simp [evb, pvb, rnb, kb, hN, Nat.reduceLT, Nat.reduceEqDiff, reduceIte, Int.reduceToNat, Int.reduceBEq, Nat.reduceAdd, g6, g9, g8', lC, l8, e2, o0, o1, d1, Nat.add_zero, dyb, sdb] <;> omega); (· kernel_rfl); try simp only [evb, pvb, rnb, kb, hN, Nat.reduceLT, Nat.reduceEqDiff, reduceIte, Int.reduceToNat, Int.reduceBEq, Nat.reduceAdd, g6, g9, g8', lC, l8, e2, o0, o1, d1, Nat.add_zero]) | (refine wf_gno rfl rfl rfl ?_ ?_; (· simp [evb, pvb, rnb, kb, hN, Nat.reduceLT, Nat.reduceEqDiff, reduceIte, Int.reduceToNat, Int.reduceBEq, Nat.reduceAdd, g6, g9, g8', lC, l8, e2, o0, o1, d1, Nat.add_zero]; done); try simp only [evb, pvb, rnb, kb, hN, Nat.reduceLT, Nat.reduceEqDiff, reduceIte, Int.reduceToNat, Int.reduceBEq, Nat.reduceAdd, g6, g9, g8', lC, l8, e2, o0, o1, d1, Nat.add_zero]) | (refine wf_gnoU rfl rfl rfl ?_ ?_; (· simp [evb, pvb, rnb, kb, hN, Nat.reduceLT, Nat.reduceEqDiff, reduceIte, Int.reduceToNat, Int.reduceBEq, Nat.reduceAdd, g6, g9, g8', lC, l8, e2, o0, o1, d1, Nat.add_zero]; done); try simp only [evb, pvb, rnb, kb, hN, Nat.reduceLT, Nat.reduceEqDiff, reduceIte, Int.reduceToNat, Int.reduceBEq, Nat.reduceAdd, g6, g9, g8', lC, l8, e2, o0, o1, d1, Nat.add_zero])))
      refine wf_nil (by decide) ?_
      have lC1 := lC.1
      refine hK3 _ _ ?_
      by_cases hlt : y.1 < x.1
      · refine wp_cond_true (by simp only [evb, pvb, rnb, kb, hN, Nat.reduceLT, Nat.reduceEqDiff, reduceIte, Int.reduceToNat, Int.reduceBEq, Nat.reduceAdd]; erw [lC1]; simp [cmp2, hlt]) ?_
        refine wp_skip (hK2 _ _ ?_)
        refine wp_block ?_
        have hjp : j + 1 ≤ unkPos x.1 acc := by
          by_cases he : j = unkPos x.1 acc
          · rw [he] at hy; exact absurd hlt (unk_at hy)
          · omega
        refine wp_reg ?_; (repeat ((with_reducible refine wl_p ?_ ?_ ?_); (· simp [evb, pvb, rnb, kb, hN, g9, dyb, sdb] <;> omega); (· kernel_rfl); try simp only [evb, pvb, rnb, kb, hN, Nat.reduceLT, Nat.reduceEqDiff, reduceIte, Int.reduceToNat, Int.reduceBEq, Nat.reduceAdd, g9])); refine wl_nil ⟨⟨j + 1, by simp only [evb, kb, hN, Nat.reduceLT, Nat.reduceEqDiff, reduceIte, Int.reduceToNat, Int.reduceBEq], by simp [defers_put, hD], by simp only [evb, pvb, rnb, kb, hN, Nat.reduceLT, Nat.reduceEqDiff, reduceIte, Int.reduceToNat, Int.reduceBEq, Nat.reduceAdd, g17], by simp only [evb, pvb, rnb, kb, hN, Nat.reduceLT, Nat.reduceEqDiff, reduceIte, Int.reduceToNat, Int.reduceBEq, Nat.reduceAdd, g5], by simp only [evb, pvb, rnb, kb, hN, Nat.reduceLT, Nat.reduceEqDiff, reduceIte, Int.reduceToNat, Int.reduceBEq, Nat.reduceAdd, g6, hv6], by simp only [evb, pvb, rnb, kb, hN, Nat.reduceLT, Nat.reduceEqDiff, reduceIte, Int.reduceToNat, Int.reduceBEq, Nat.reduceAdd, g8'], by simp only [evb, pvb, rnb, kb, hN, Nat.reduceLT, Nat.reduceEqDiff, reduceIte, Int.reduceToNat, Int.reduceBEq, Nat.reduceAdd]; rw [i64_id ((j : Int) + 1) (by omega)]; rfl, by simp only [evb, pvb, rnb, kb, hN, Nat.reduceLT, Nat.reduceEqDiff, reduceIte, Int.reduceToNat, Int.reduceBEq, Nat.reduceAdd, g18], by simp only [evb, pvb, rnb, kb, hN, Nat.reduceLT, Nat.reduceEqDiff, reduceIte, Int.reduceToNat, Int.reduceBEq, Nat.reduceAdd, g19], hjp, hc5.trans (Chg.drew _ _) fun _ _ h => h⟩, ?_⟩
        simp only [evb, pvb, rnb, kb, hN, Nat.reduceLT, Nat.reduceEqDiff, reduceIte, Int.reduceToNat, Int.reduceBEq, Nat.reduceAdd, g9]
        rw [i64_id ((j : Int) + 1) (by omega)]
        simp only [intOf]
        omega
      · refine wp_cond_false (by simp only [evb, pvb, rnb, kb, hN, Nat.reduceLT, Nat.reduceEqDiff, reduceIte, Int.reduceToNat, Int.reduceBEq, Nat.reduceAdd]; erw [lC1]; simp [cmp2, hlt]) ?_
        refine wp_exit ?_
        simp only [Exit.then, Exit.inBlock, if_pos]
        have hjp : j = unkPos x.1 acc := by
          by_cases he : j < unkPos x.1 acc
          · obtain ⟨z, hz, hz2⟩ := unk_below he
            rw [hy] at hz; cases hz
            exact absurd hz2 hlt
          · omega
        exact next _ _ (by simp only [evb, kb, hN, Nat.reduceLT, Nat.reduceEqDiff, reduceIte, Int.reduceToNat, Int.reduceBEq]) (by simp [defers_put, hD]) (by simp only [evb, pvb, rnb, kb, hN, Nat.reduceLT, Nat.reduceEqDiff, reduceIte, Int.reduceToNat, Int.reduceBEq, Nat.reduceAdd, g17]) (by simp only [evb, pvb, rnb, kb, hN, Nat.reduceLT, Nat.reduceEqDiff, reduceIte, Int.reduceToNat, Int.reduceBEq, Nat.reduceAdd, g5]) (by simp only [evb, pvb, rnb, kb, hN, Nat.reduceLT, Nat.reduceEqDiff, reduceIte, Int.reduceToNat, Int.reduceBEq, Nat.reduceAdd, g6, hv6]) (by simp only [evb, pvb, rnb, kb, hN, Nat.reduceLT, Nat.reduceEqDiff, reduceIte, Int.reduceToNat, Int.reduceBEq, Nat.reduceAdd, g8']) (by simp only [evb, pvb, rnb, kb, hN, Nat.reduceLT, Nat.reduceEqDiff, reduceIte, Int.reduceToNat, Int.reduceBEq, Nat.reduceAdd, g9]) (by simp only [evb, pvb, rnb, kb, hN, Nat.reduceLT, Nat.reduceEqDiff, reduceIte, Int.reduceToNat, Int.reduceBEq, Nat.reduceAdd, g18]) (by simp only [evb, pvb, rnb, kb, hN, Nat.reduceLT, Nat.reduceEqDiff, reduceIte, Int.reduceToNat, Int.reduceBEq, Nat.reduceAdd, g19]) hjp (hc5.trans (Chg.drew _ _) fun _ _ h => h)
    · have d1 : decide ((j : Int) < (acc.length : Int)) = false := decide_eq_false (by omega)
      (repeat (first | (refine wf_p rfl rfl ?_ ?_ ?_ ?_; (· first | exact rdX_no | (refine ⟨?_⟩; simp [rxb]; done)); (· simp [evb, pvb, rnb, kb, hN, Nat.reduceLT, Nat.reduceEqDiff, reduceIte, Int.reduceToNat, Int.reduceBEq, Nat.reduceAdd, g6, g9, g8', l8, e2, o0, o1, d1, Nat.add_zero, dyb, sdb] <;> omega); (· kernel_rfl); try simp only [evb, pvb, rnb, kb, hN, Nat.reduceLT, Nat.reduceEqDiff, reduceIte, Int.reduceToNat, Int.reduceBEq, Nat.reduceAdd, g6, g9, g8', l8, e2, o0, o1, d1, Nat.add_zero]) | (refine wf_pg rfl rfl rfl ?_ rfl ?_ ?_ ?_ ?_; (· simp [evb, pvb, rnb, kb, hN, Nat.reduceLT, Nat.reduceEqDiff, reduceIte, Int.reduceToNat, Int.reduceBEq, Nat.reduceAdd, g6, g9, g8', l8, e2, o0, o1, d1, Nat.add_zero]; done); (· first | exact rdX_no | (refine ⟨?_⟩; simp [rxb]; done)); (· simp [evb, pvb, rnb, kb, hN, Nat.reduceLT, Nat.reduceEqDiff, reduceIte, Int.reduceToNat, Int.reduceBEq, Nat.reduceAdd, g6, g9, g8', l8, e2, o0, o1, d1, Nat.add_zero, dyb, sdb] <;> omega); (· kernel_rfl); try simp only [evb, pvb, rnb, kb, hN, Nat.reduceLT, Nat.reduceEqDiff, reduceIte, Int.reduceToNat, Int.reduceBEq, Nat.reduceAdd, g6, g9, g8', l8, e2, o0, o1, d1, Nat.add_zero]) | (refine wf_gno rfl rfl rfl ?_ ?_; (· simp [evb, pvb, rnb, kb, hN, Nat.reduceLT, Nat.reduceEqDiff, reduceIte, Int.reduceToNat, Int.reduceBEq, Nat.reduceAdd, g6, g9, g8', l8, e2, o0, o1, d1, Nat.add_zero]; done); try simp only [evb, pvb, rnb, kb, hN, Nat.reduceLT, Nat.reduceEqDiff, reduceIte, Int.reduceToNat, Int.reduceBEq, Nat.reduceAdd, g6, g9, g8', l8, e2, o0, o1, d1, Nat.add_zero]) | (refine wf_gnoU rfl rfl rfl ?_ ?_; (· simp [evb, pvb, rnb, kb, hN, Nat.reduceLT, Nat.reduceEqDiff, reduceIte, Int.reduceToNat, Int.reduceBEq, Nat.reduceAdd, g6, g9, g8', l8, e2, o0, o1, d1, Nat.add_zero]; done); try simp only [evb, pvb, rnb, kb, hN, Nat.reduceLT, Nat.reduceEqDiff, reduceIte, Int.reduceToNat, Int.reduceBEq, Nat.reduceAdd, g6, g9, g8', l8, e2, o0, o1, d1, Nat.add_zero])))
      refine wf_nil (by decide) ?_
      refine hK3 _ _ ?_
      refine wp_cond_false (by simp only [evb, pvb, rnb, kb, hN, Nat.reduceLT, Nat.reduceEqDiff, reduceIte, Int.reduceToNat, Int.reduceBEq, Nat.reduceAdd]) ?_
      refine wp_exit ?_
      simp only [Exit.then, Exit.inBlock, if_pos]
      exact next _ _ (by simp only [evb, kb, hN, Nat.reduceLT, Nat.reduceEqDiff, reduceIte, Int.reduceToNat, Int.reduceBEq]) (by simp [defers_put, hD]) (by simp only [evb, pvb, rnb, kb, hN, Nat.reduceLT, Nat.reduceEqDiff, reduceIte, Int.reduceToNat, Int.reduceBEq, Nat.reduceAdd, g17]) (by simp only [evb, pvb, rnb, kb, hN, Nat.reduceLT, Nat.reduceEqDiff, reduceIte, Int.reduceToNat, Int.reduceBEq, Nat.reduceAdd, g5]) (by simp only [evb, pvb, rnb, kb, hN, Nat.reduceLT, Nat.reduceEqDiff, reduceIte, Int.reduceToNat, Int.reduceBEq, Nat.reduceAdd, g6, hv6]) (by simp only [evb, pvb, rnb, kb, hN, Nat.reduceLT, Nat.reduceEqDiff, reduceIte, Int.reduceToNat, Int.reduceBEq, Nat.reduceAdd, g8']) (by simp only [evb, pvb, rnb, kb, hN, Nat.reduceLT, Nat.reduceEqDiff, reduceIte, Int.reduceToNat, Int.reduceBEq, Nat.reduceAdd, g9]) (by simp only [evb, pvb, rnb, kb, hN, Nat.reduceLT, Nat.reduceEqDiff, reduceIte, Int.reduceToNat, Int.reduceBEq, Nat.reduceAdd, g18]) (by simp only [evb, pvb, rnb, kb, hN, Nat.reduceLT, Nat.reduceEqDiff, reduceIte, Int.reduceToNat, Int.reduceBEq, Nat.reduceAdd, g19]) (by omega) (hc5.trans (Chg.drew _ _) fun _ _ h => h)
  · clear hN hD
    rintro a1 w2 ⟨acc, v6, hN, hD, g17, g5, g6, hal, hU, hs, hc2⟩
    refine hK0 _ _ ?_; try clear hK0 K0
    (repeat (first | (with_reducible refine wp_seq_k (fun K hK => ?_)) | (with_reducible refine wp_block ?_) | ((with_reducible refine wp_reg ?_); (repeat (first | ((first | (with_reducible first | refine wl_move ?_ | refine wl_assign ?_ | refine wl_add ?_ ?_ | refine wl_sub ?_ ?_ | refine wl_lss ?_ ?_ | refine wl_leq ?_ ?_ | refine wl_gtr ?_ ?_ | refine wl_geq ?_ ?_ | refine wl_eql ?_ ?_ | refine wl_neq ?_ ?_ | refine wl_not ?_ ?_ | refine wl_shr ?_ ?_ ?_ | refine wl_and127 ?_ ?_ | refine wl_or128 ?_ ?_ ?_ | refine wl_min ?_ ?_ ?_ | refine wl_max ?_ ?_ ?_ | refine wl_mul ?_ ?_) | ((with_reducible refine wl_conv ?_ ?_ ?_ ?_); (· kernel_rfl); (· kernel_rfl)) | ((with_reducible refine wl_len ?_ ?_ ?_); rotate_left 1; (· simp [evb, kb, hN, g6, bigb, sdb]); rotate_left 1; (· kernel_rfl)) | ((with_reducible refine wl_lenS ?_ ?_ ?_); rotate_left 1; (· simp [evb, kb, hN, g6, bigb, sdb]); rotate_left 1; (· kernel_rfl)) | ((with_reducible refine wl_pickT ?_ ?_); (· simp [evb, kb, hN, g6, bigb, sdb])) | ((with_reducible refine wl_pickF ?_ ?_); (· simp [evb, kb, hN, g6, bigb, sdb]))) <;> (first | (with_reducible refine wl_id ?_; try simp only [evb, kb, hN, Nat.reduceLT, Nat.reduceEqDiff, reduceIte, Int.reduceToNat, Int.reduceBEq, g6, bigb]) | (simp [evb, kb, hN, g6, bigb, sdb] <;> omega))) | ((with_reducible apply wl_gyesB); (· exact rfl); (· exact rfl); (· simp [evb, kb, hN, g6, bigb, sdb]); try simp only [evb, kb, hN, Nat.reduceLT, Nat.reduceEqDiff, reduceIte, Int.reduceToNat, Int.reduceBEq, g6, bigb]) | ((with_reducible apply wl_gnoB); (· exact rfl); (· exact rfl); (· simp [evb, kb, hN, g6, bigb, sdb]); try simp only [evb, kb, hN, Nat.reduceLT, Nat.reduceEqDiff, reduceIte, Int.reduceToNat, Int.reduceBEq, g6, bigb]) | ((with_reducible apply wl_gnoU); (· exact rfl); (· exact rfl); (· simp [evb, kb, hN, g6, bigb, sdb]); try simp only [evb, kb, hN, Nat.reduceLT, Nat.reduceEqDiff, reduceIte, Int.reduceToNat, Int.reduceBEq, g6, bigb]))); (refine wl_nil ?_)) | ((with_reducible refine wp_cond_true ?_ ?_); (· simp [evb, kb, hN, g6, sdb])) | ((with_reducible refine wp_cond_false ?_ ?_); (· simp [evb, kb, hN, g6, sdb])) | (with_reducible refine wp_skip ?_) | (refine hK _ _ ?_; clear hK K)))
    refine wp_ret ⟨by simp [defers_put, hD], ?_⟩; simp only [evb, kb, hN, Nat.reduceLT, Nat.reduceEqDiff, reduceIte, Int.reduceToNat, Int.reduceBEq]
    rw [List.drop_length] at hs
    have hacc : acc = sUnkFrom k ts [] := hs
    rw [hun, ← hacc]
    refine ⟨?_, chg_own hc2⟩
    obtain ⟨cs', q1, q2⟩ := hU.row
    rcases q1.2 with ⟨rfl, hn⟩ | _
    · have : acc = [] := List.eq_nil_of_length_eq_zero hn
      subst this
      exact ⟨none, 0, rfl, Nat.le_refl _, .inl rfl⟩
    · by_cases h0 : 0 < acc.length
      · obtain ⟨g, cap', C, rfl, k1, k2, k3, k4⟩ := hU.some h0
        obtain ⟨g', cap2, cur, ev, _, _, hn, _⟩ := q1.2.resolve_left (fun h => by cases h.1)
        simp only [Value.slice.injEq] at ev
        obtain ⟨_, _, rfl⟩ := ev
        exact ⟨some ⟨g, 0, none⟩, cap', rfl, hn, .inr ⟨g, 0, C, _, rfl, .inr k1, k2.r, k4.stay (Stay.sub fun k _ h => .inl h.1)⟩⟩
      · have : acc = [] := List.eq_nil_of_length_eq_zero (by omega)
        subst this
        obtain ⟨oa', cap', rfl⟩ := hU.len
        exact ⟨oa', cap', rfl, Nat.zero_le _, .inl rfl⟩
end Go.Proofs.YtgjnllebnkjofaaDoor
namespace Go.Proofs.YtgjnllebnkjofaaDoor
set_option linter.all false
open Go.RowKit
set_option maxRecDepth 10000
set_option maxHeartbeats 2000000
mutual
def FOK : Fld → Prop
  | .mk _ _ _ _ _ _ _ sub => sub.length ≤ 1073741824 ∧ LOK sub
def LOK : List Fld → Prop
  | [] => True
  | f :: r => f.tag < 1073741824 ∧ FOK f ∧ LOK r
end
mutual
def TROK : Tr → Prop
  | .mk _ b _ l t => tagOK t ∧ b.length ≤ LIM ∧ l.length ≤ LIM ∧ t.length ≤ LIM ∧ TRLOK l
def TRLOK : List Tr → Prop
  | [] => True
  | x :: r => TROK x ∧ TRLOK r
end
theorem LOK.small : ∀ {fs : List Fld}, LOK fs → TagsSmall fs
  | [], _, f, hf => by cases hf
  | g :: r, h, f, hf => by
    unfold LOK at h
    rcases List.mem_cons.1 hf with rfl | hf
    · exact h.1
    · exact LOK.small h.2.2 f hf
theorem LOK.mem : ∀ {fs : List Fld}, LOK fs → ∀ f ∈ fs, FOK f
  | [], _, f, hf => by cases hf
  | g :: r, h, f, hf => by
    unfold LOK at h
    rcases List.mem_cons.1 hf with rfl | hf
    · exact h.2.1
    · exact LOK.mem h.2.2 f hf
theorem TRLOK.mem : ∀ {l : List Tr}, TRLOK l → ∀ x ∈ l, TROK x
  | [], _, f, hf => by cases hf
  | g :: r, h, f, hf => by
    unfold TRLOK at h
    rcases List.mem_cons.1 hf with rfl | hf
    · exact h.1
    · exact TRLOK.mem h.2 f hf
theorem TROK.parts {v : Tr} (h : TROK v) : tagOK v.t ∧ v.b.length ≤ LIM ∧ v.l.length ≤ LIM ∧ v.t.length ≤ LIM ∧ TRLOK v.l := by
  cases v; unfold TROK at h; exact h
theorem TROK.th {v : Tr} (h : TROK v) (h0 : tagOK []) (i : Nat) : TROK (v.th i) := by
  unfold Tr.th
  cases hx : v.l[i]? with
  | none => simp only [Option.getD_none, Tr.zero]; unfold TROK; exact ⟨h0, by simp, by simp, by simp, by unfold TRLOK; trivial⟩
  | some x => exact h.parts.2.2.2.2.mem x (List.mem_of_getElem? hx)
theorem sUsualL_iff : ∀ (fs : List Fld) (v : Tr) (i : Nat), sUsualL fs v i = true ↔ ∀ j f, fs[j]? = some f → sUsual f (v.th (i + j)) = true
  | [], v, i => by simp [sUsualL]
  | g :: r, v, i => by
    unfold sUsualL
    rw [Bool.and_eq_true, sUsualL_iff r v (i + 1)]
    constructor
    · rintro ⟨h1, h2⟩ j f hj
      cases j with
      | zero => simp at hj; subst hj; exact h1
      | succ j => have := h2 j f (by simpa using hj); rw [show i + (j + 1) = i + 1 + j by omega]; exact this
    · intro h
      refine ⟨h 0 g rfl, fun j f hj => ?_⟩
      have := h (j + 1) f (by simpa using hj)
      rw [show i + 1 + j = i + (j + 1) by omega]; exact this
theorem usual_num (k : K) (a b nl c df : Int) (of : K) (sub : List Fld) (v : Tr) (h : k ≠ .bool ∧ k ≠ .uuid ∧ k ≠ .text ∧ k ≠ .bytes ∧ k ≠ .struct ∧ k ≠ .list) :
    sUsual (.mk k a b nl c df of sub) v = decide (be (kWid k) v.n = be (kWid k) df) := by
  unfold sUsual
  cases k <;> simp at h ⊢
theorem Octs.later {w w1 w2 : World} {v : Value} {l : Bs} (h : Octs w v l w1) (c : Chg (fun _ => False) w1 w2) : Own eB w2 w.heap.size v l := h.1.chg c fun _ _ h => h
theorem usual_N : ∀ (N : Nat) (f : Fld) (v : Tr), SizeOf.sizeOf f < N → FOK f → TROK v → ∀ {w : World} {G G' : Nat → Prop} {cs ts : List Value}, SchF w G f cs → TrC w G' v ts →
    CallsR Tryd.prog 45 #[aggOf cs, aggOf ts] w fun r w' => r = .bool (sUsual f v) ∧ Chg (fun _ => False) w w'
  | 0, _, _, hs, _, _, _, _, _, _, _, _, _ => absurd hs (Nat.not_lt_zero _)
  | N + 1, f, v, hsz, hfo, hvo, w, G, G', cs, ts, hfc, hv => by
    obtain ⟨_, c0, c1, c2, c3, c4, c5, c6, x7, c7, hx7⟩ := hfc.cells
    obtain ⟨_, t0, hn, ⟨ob, cb, t1, hcb, hbb⟩, t2, ⟨x3, t3, hx3⟩, ⟨x4, t4, hx4⟩⟩ := hv.cells
    refine callsR_of Tryd.func45 rfl rfl Tryd.ntmps45 (by simp) ?_
    intro a hN hD ha
    have h0 : get a 0 = aggOf cs := ha 0 _ rfl
    have h1 : get a 1 = aggOf ts := ha 1 _ rfl
    refine wp_seq_k fun K hK => ?_; refine wp_reg ?_
    refine wl_boxA (by rw [eval_tmp]; exact h0) fun w1 hc hb hs => ?_
    refine wl_boxA (l := ts) (by simp [evb, kb, hN, h1, sdb]) fun w2 hc2 hb2 hs2 => ?_
    replace hb := hb.chg hc2 (fun h => h)
    replace hc := hc.trans hc2 (fun _ _ h => h)
    rw [hs] at hb2 ⊢
    clear hc2 hs hs2 w1
    (repeat (first | ((first | (with_reducible first | refine wl_move ?_ | refine wl_assign ?_ | refine wl_add ?_ ?_ | refine wl_sub ?_ ?_ | refine wl_lss ?_ ?_ | refine wl_leq ?_ ?_ | refine wl_gtr ?_ ?_ | refine wl_geq ?_ ?_ | refine wl_eql ?_ ?_ | refine wl_neq ?_ ?_ | refine wl_not ?_ ?_ | refine wl_shr ?_ ?_ ?_ | refine wl_and127 ?_ ?_ | refine wl_or128 ?_ ?_ ?_) | ((with_reducible refine wl_conv ?_ ?_ ?_ ?_); (· kernel_rfl); (· kernel_rfl)) | ((with_reducible refine wl_len ?_ ?_ ?_); rotate_left 1; (· simp [evb, kb, hN, sdb]); rotate_left 1; (· kernel_rfl)) | ((with_reducible refine wl_lenS ?_ ?_ ?_); rotate_left 1; (· simp [evb, kb, hN, sdb]); rotate_left 1; (· kernel_rfl))) <;> (first | (with_reducible refine wl_id ?_; try simp only [evb, kb, hN, Nat.reduceLT, Nat.reduceEqDiff, reduceIte, Int.reduceToNat, Int.reduceBEq]) | (simp [evb, kb, hN, sdb] <;> omega)))))
    refine wl_nil ?_; refine hK _ _ ?_; clear hK K
    refine wp_seq_k fun K0 hK0 => ?_; refine wp_seq_k fun K1 hK1 => ?_; refine wp_reg ?_
    with_reducible refine wl_fieldAt (b := w.heap.size) (off := 0) (n := 1) ?_ ?_ ?_; (· kernel_rfl); (· simp [evb, kb, hN, sdb])
    with_reducible refine wl_load (b := w.heap.size) (o := 0) ?_ ?_ hb c0 ?_; (· kernel_rfl); (· simp [evb, kb, hN, sdb])
    refine wl_nil ?_
    refine hK1 _ _ ?_; try clear hK1 K1
    unfold kV
    obtain ⟨k, fr, to, nl, tg, df, of, sub⟩ := f
    simp only [Fld.kind, Fld.null, Fld.dflt, Fld.sub, Fld.of, Fld.from_, Fld.to, Fld.tag] at c0 c1 c2 c3 c4 c5 c6 c7 hx7 ⊢
    cases k
    case bool =>
      (repeat (first | (with_reducible refine wp_seq_k (fun K hK => ?_)) | (with_reducible refine wp_block ?_) | ((with_reducible refine wp_reg ?_); (repeat (first | ((first | (with_reducible first | refine wl_move ?_ | refine wl_assign ?_ | refine wl_add ?_ ?_ | refine wl_sub ?_ ?_ | refine wl_lss ?_ ?_ | refine wl_leq ?_ ?_ | refine wl_gtr ?_ ?_ | refine wl_geq ?_ ?_ | refine wl_eql ?_ ?_ | refine wl_neq ?_ ?_ | refine wl_not ?_ ?_ | refine wl_shr ?_ ?_ ?_ | refine wl_and127 ?_ ?_ | refine wl_or128 ?_ ?_ ?_ | refine wl_min ?_ ?_ ?_ | refine wl_max ?_ ?_ ?_ | refine wl_mul ?_ ?_) | ((with_reducible refine wl_conv ?_ ?_ ?_ ?_); (· kernel_rfl); (· kernel_rfl)) | ((with_reducible refine wl_len ?_ ?_ ?_); rotate_left 1; (· simp [evb, kb, hN, kNum, bigb, sdb]); rotate_left 1; (· kernel_rfl)) | ((with_reducible refine wl_lenS ?_ ?_ ?_); rotate_left 1; (· simp [evb, kb, hN, kNum, bigb, sdb]); rotate_left 1; (· kernel_rfl)) | ((with_reducible refine wl_pickT ?_ ?_); (· simp [evb, kb, hN, kNum, bigb, sdb])) | ((with_reducible refine wl_pickF ?_ ?_); (· simp [evb, kb, hN, kNum, bigb, sdb]))) <;> (first | (with_reducible refine wl_id ?_; try simp only [evb, kb, hN, Nat.reduceLT, Nat.reduceEqDiff, reduceIte, Int.reduceToNat, Int.reduceBEq, kNum, bigb]) | (simp [evb, kb, hN, kNum, bigb, sdb] <;> omega))) | ((with_reducible apply wl_gyesB); (· exact rfl); (· exact rfl); (· simp [evb, kb, hN, kNum, bigb, sdb]); try simp only [evb, kb, hN, Nat.reduceLT, Nat.reduceEqDiff, reduceIte, Int.reduceToNat, Int.reduceBEq, kNum, bigb]) | ((with_reducible apply wl_gnoB); (· exact rfl); (· exact rfl); (· simp [evb, kb, hN, kNum, bigb, sdb]); try simp only [evb, kb, hN, Nat.reduceLT, Nat.reduceEqDiff, reduceIte, Int.reduceToNat, Int.reduceBEq, kNum, bigb]) | ((with_reducible apply wl_gnoU); (· exact rfl); (· exact rfl); (· simp [evb, kb, hN, kNum, bigb, sdb]); try simp only [evb, kb, hN, Nat.reduceLT, Nat.reduceEqDiff, reduceIte, Int.reduceToNat, Int.reduceBEq, kNum, bigb]))); (refine wl_nil ?_)) | ((with_reducible refine wp_cond_true ?_ ?_); (· simp [evb, kb, hN, kNum, sdb])) | ((with_reducible refine wp_cond_false ?_ ?_); (· simp [evb, kb, hN, kNum, sdb])) | (with_reducible refine wp_skip ?_) | (refine hK _ _ ?_; clear hK K)))
      refine wp_reg ?_
      with_reducible refine wl_fieldAt (b := w.heap.size + 1) (off := 0) (n := 1) ?_ ?_ ?_; (· kernel_rfl); (· simp [evb, kb, hN, sdb])
      with_reducible refine wl_load (b := w.heap.size + 1) (o := 0) ?_ ?_ hb2 t0 ?_; (· kernel_rfl); (· simp [evb, kb, hN, sdb])
      with_reducible refine wl_and1 ?_ ?_
      · simp [evb, kb, hN, sdb]
      simp only [evb, kb, hN, Nat.reduceLT, Nat.reduceEqDiff, reduceIte, Int.reduceToNat, Int.reduceBEq, and1]
      with_reducible refine wl_fieldAt (b := w.heap.size) (off := 5) (n := 1) ?_ ?_ ?_; (· kernel_rfl); (· simp [evb, kb, hN, sdb])
      with_reducible refine wl_load (b := w.heap.size) (o := 5) ?_ ?_ hb c5 ?_; (· kernel_rfl); (· simp [evb, kb, hN, sdb])
      (repeat (first | ((first | (with_reducible first | refine wl_move ?_ | refine wl_assign ?_ | refine wl_add ?_ ?_ | refine wl_sub ?_ ?_ | refine wl_lss ?_ ?_ | refine wl_leq ?_ ?_ | refine wl_gtr ?_ ?_ | refine wl_geq ?_ ?_ | refine wl_eql ?_ ?_ | refine wl_neq ?_ ?_ | refine wl_not ?_ ?_ | refine wl_shr ?_ ?_ ?_ | refine wl_and127 ?_ ?_ | refine wl_or128 ?_ ?_ ?_) | ((with_reducible refine wl_conv ?_ ?_ ?_ ?_); (· kernel_rfl); (· kernel_rfl)) | ((with_reducible refine wl_len ?_ ?_ ?_); rotate_left 1; (· simp [evb, kb, hN, sdb]); rotate_left 1; (· kernel_rfl)) | ((with_reducible refine wl_lenS ?_ ?_ ?_); rotate_left 1; (· simp [evb, kb, hN, sdb]); rotate_left 1; (· kernel_rfl))) <;> (first | (with_reducible refine wl_id ?_; try simp only [evb, kb, hN, Nat.reduceLT, Nat.reduceEqDiff, reduceIte, Int.reduceToNat, Int.reduceBEq]) | (simp [evb, kb, hN, sdb] <;> omega)))))
      refine wl_nil ?_; refine hK _ _ ?_; clear hK K
      refine wp_ret ⟨by simp [defers_put, hD], ?_⟩; simp only [evb, kb, hN, Nat.reduceLT, Nat.reduceEqDiff, reduceIte, Int.reduceToNat, Int.reduceBEq]
      refine ⟨?_, hc⟩
      unfold sUsual
      rfl
    case uuid =>
      (repeat (first | (with_reducible refine wp_seq_k (fun K hK => ?_)) | (with_reducible refine wp_block ?_) | ((with_reducible refine wp_reg ?_); (repeat (first | ((first | (with_reducible first | refine wl_move ?_ | refine wl_assign ?_ | refine wl_add ?_ ?_ | refine wl_sub ?_ ?_ | refine wl_lss ?_ ?_ | refine wl_leq ?_ ?_ | refine wl_gtr ?_ ?_ | refine wl_geq ?_ ?_ | refine wl_eql ?_ ?_ | refine wl_neq ?_ ?_ | refine wl_not ?_ ?_ | refine wl_shr ?_ ?_ ?_ | refine wl_and127 ?_ ?_ | refine wl_or128 ?_ ?_ ?_ | refine wl_min ?_ ?_ ?_ | refine wl_max ?_ ?_ ?_ | refine wl_mul ?_ ?_) | ((with_reducible refine wl_conv ?_ ?_ ?_ ?_); (· kernel_rfl); (· kernel_rfl)) | ((with_reducible refine wl_len ?_ ?_ ?_); rotate_left 1; (· simp [evb, kb, hN, kNum, bigb, sdb]); rotate_left 1; (· kernel_rfl)) | ((with_reducible refine wl_lenS ?_ ?_ ?_); rotate_left 1; (· simp [evb, kb, hN, kNum, bigb, sdb]); rotate_left 1; (· kernel_rfl)) | ((with_reducible refine wl_pickT ?_ ?_); (· simp [evb, kb, hN, kNum, bigb, sdb])) | ((with_reducible refine wl_pickF ?_ ?_); (· simp [evb, kb, hN, kNum, bigb, sdb]))) <;> (first | (with_reducible refine wl_id ?_; try simp only [evb, kb, hN, Nat.reduceLT, Nat.reduceEqDiff, reduceIte, Int.reduceToNat, Int.reduceBEq, kNum, bigb]) | (simp [evb, kb, hN, kNum, bigb, sdb] <;> omega))) | ((with_reducible apply wl_gyesB); (· exact rfl); (· exact rfl); (· simp [evb, kb, hN, kNum, bigb, sdb]); try simp only [evb, kb, hN, Nat.reduceLT, Nat.reduceEqDiff, reduceIte, Int.reduceToNat, Int.reduceBEq, kNum, bigb]) | ((with_reducible apply wl_gnoB); (· exact rfl); (· exact rfl); (· simp [evb, kb, hN, kNum, bigb, sdb]); try simp only [evb, kb, hN, Nat.reduceLT, Nat.reduceEqDiff, reduceIte, Int.reduceToNat, Int.reduceBEq, kNum, bigb]) | ((with_reducible apply wl_gnoU); (· exact rfl); (· exact rfl); (· simp [evb, kb, hN, kNum, bigb, sdb]); try simp only [evb, kb, hN, Nat.reduceLT, Nat.reduceEqDiff, reduceIte, Int.reduceToNat, Int.reduceBEq, kNum, bigb]))); (refine wl_nil ?_)) | ((with_reducible refine wp_cond_true ?_ ?_); (· simp [evb, kb, hN, kNum, sdb])) | ((with_reducible refine wp_cond_false ?_ ?_); (· simp [evb, kb, hN, kNum, sdb])) | (with_reducible refine wp_skip ?_) | (refine hK _ _ ?_; clear hK K)))
      refine wp_reg ?_
      with_reducible refine wl_fieldAt (b := w.heap.size + 1) (off := 1) (n := 1) ?_ ?_ ?_; (· kernel_rfl); (· simp [evb, kb, hN, sdb])
      with_reducible refine wl_load (b := w.heap.size + 1) (o := 1) ?_ ?_ hb2 t1 ?_; (· kernel_rfl); (· simp [evb, kb, hN, sdb])
      (repeat (first | ((first | (with_reducible first | refine wl_move ?_ | refine wl_assign ?_ | refine wl_add ?_ ?_ | refine wl_sub ?_ ?_ | refine wl_lss ?_ ?_ | refine wl_leq ?_ ?_ | refine wl_gtr ?_ ?_ | refine wl_geq ?_ ?_ | refine wl_eql ?_ ?_ | refine wl_neq ?_ ?_ | refine wl_not ?_ ?_ | refine wl_shr ?_ ?_ ?_ | refine wl_and127 ?_ ?_ | refine wl_or128 ?_ ?_ ?_) | ((with_reducible refine wl_conv ?_ ?_ ?_ ?_); (· kernel_rfl); (· kernel_rfl)) | ((with_reducible refine wl_len ?_ ?_ ?_); rotate_left 1; (· simp [evb, kb, hN, sdb]); rotate_left 1; (· kernel_rfl)) | ((with_reducible refine wl_lenS ?_ ?_ ?_); rotate_left 1; (· simp [evb, kb, hN, sdb]); rotate_left 1; (· kernel_rfl))) <;> (first | (with_reducible refine wl_id ?_; try simp only [evb, kb, hN, Nat.reduceLT, Nat.reduceEqDiff, reduceIte, Int.reduceToNat, Int.reduceBEq]) | (simp [evb, kb, hN, sdb] <;> omega)))))
      refine wl_nil ?_; refine hK _ _ ?_; clear hK K
      have hlim := hvo.parts.2.1
      unfold LIM at hlim
      refine wp_range (n := v.b.length) (fun i a' w' => a'.tmps.size = 91 ∧ a'.defers = [] ∧ get a' 22 = .slice ob v.b.length cb ∧ w' = w2 ∧ (v.b.take (min i 16)).all (· == 0) = true) 91 (by omega)
        (by simp only [evb, kb, hN, Nat.reduceLT, Nat.reduceEqDiff, reduceIte, Int.reduceToNat, Int.reduceBEq]) (by simp only [evb, kb, hN, Nat.reduceLT, Nat.reduceEqDiff, reduceIte, Int.reduceToNat, Int.reduceBEq]) ⟨by simp only [evb, kb, hN, Nat.reduceLT, Nat.reduceEqDiff, reduceIte, Int.reduceToNat, Int.reduceBEq], by simp [defers_put, hD], by simp only [evb, kb, hN, Nat.reduceLT, Nat.reduceEqDiff, reduceIte, Int.reduceToNat, Int.reduceBEq], rfl, by simp⟩ ?_ ?_ (by decide) ?_ ?_
      · rintro i a w ⟨h, _⟩; exact h
      · rintro i a w t v ht ⟨k1, k2, k3, k4⟩
        rcases ht with rfl | rfl | rfl <;> exact ⟨by rw [size_put]; exact k1, by rw [defers_put]; exact k2, by rw [get_put_ne (by decide)]; exact k3, k4⟩
      · clear hN hD
        rintro i a1 w1 hi ⟨hN, hD, g22, rfl, hall⟩ g1 g2
        obtain ⟨b, p, bc, T, rfl, _, hbk, hcell⟩ := hbb.row hi
        have hbk2 := hbk.chg hc (fun h => h)
        refine wp_seq_k fun K hK => ?_; refine wp_reg ?_
        (repeat (first | ((first | (with_reducible first | refine wl_move ?_ | refine wl_assign ?_ | refine wl_add ?_ ?_ | refine wl_sub ?_ ?_ | refine wl_lss ?_ ?_ | refine wl_leq ?_ ?_ | refine wl_gtr ?_ ?_ | refine wl_geq ?_ ?_ | refine wl_eql ?_ ?_ | refine wl_neq ?_ ?_ | refine wl_not ?_ ?_ | refine wl_shr ?_ ?_ ?_ | refine wl_and127 ?_ ?_ | refine wl_or128 ?_ ?_ ?_) | ((with_reducible refine wl_conv ?_ ?_ ?_ ?_); (· kernel_rfl); (· kernel_rfl)) | ((with_reducible refine wl_len ?_ ?_ ?_); rotate_left 1; (· simp [evb, kb, hN, g2, sdb]); rotate_left 1; (· kernel_rfl)) | ((with_reducible refine wl_lenS ?_ ?_ ?_); rotate_left 1; (· simp [evb, kb, hN, g2, sdb]); rotate_left 1; (· kernel_rfl))) <;> (first | (with_reducible refine wl_id ?_; try simp only [evb, kb, hN, Nat.reduceLT, Nat.reduceEqDiff, reduceIte, Int.reduceToNat, Int.reduceBEq, g2]) | (simp [evb, kb, hN, g2, sdb] <;> omega)))))
        refine wl_indexAddr (b := b) (o := p) (k := .i64) (i := i) (n := 1) (len := v.b.length) (cap := cb) (by kernel_rfl) (by simp [evb, kb, hN, g22, sdb]) (by simp [evb, kb, hN, g2, sdb]) hi ?_
        refine wl_load_r (b := b) (o := p + i * 1) (by kernel_rfl) (by simp [evb, kb, hN, sdb]) hbk2 (by rw [Nat.mul_one]; exact hcell) ?_
        (repeat (first | ((first | (with_reducible first | refine wl_move ?_ | refine wl_assign ?_ | refine wl_add ?_ ?_ | refine wl_sub ?_ ?_ | refine wl_lss ?_ ?_ | refine wl_leq ?_ ?_ | refine wl_gtr ?_ ?_ | refine wl_geq ?_ ?_ | refine wl_eql ?_ ?_ | refine wl_neq ?_ ?_ | refine wl_not ?_ ?_ | refine wl_shr ?_ ?_ ?_ | refine wl_and127 ?_ ?_ | refine wl_or128 ?_ ?_ ?_) | ((with_reducible refine wl_conv ?_ ?_ ?_ ?_); (· kernel_rfl); (· kernel_rfl)) | ((with_reducible refine wl_len ?_ ?_ ?_); rotate_left 1; (· simp [evb, kb, hN, sdb]); rotate_left 1; (· kernel_rfl)) | ((with_reducible refine wl_lenS ?_ ?_ ?_); rotate_left 1; (· simp [evb, kb, hN, sdb]); rotate_left 1; (· kernel_rfl))) <;> (first | (with_reducible refine wl_id ?_; try simp only [evb, kb, hN, Nat.reduceLT, Nat.reduceEqDiff, reduceIte, Int.reduceToNat, Int.reduceBEq]) | (simp [evb, kb, hN, sdb] <;> omega)))))
        refine wl_nil ?_; refine hK _ _ ?_; clear hK K
        refine wp_seq_k fun K hK => ?_; refine wp_reg ?_
        (repeat (first | ((first | (with_reducible first | refine wl_move ?_ | refine wl_assign ?_ | refine wl_add ?_ ?_ | refine wl_sub ?_ ?_ | refine wl_lss ?_ ?_ | refine wl_leq ?_ ?_ | refine wl_gtr ?_ ?_ | refine wl_geq ?_ ?_ | refine wl_eql ?_ ?_ | refine wl_neq ?_ ?_ | refine wl_not ?_ ?_ | refine wl_shr ?_ ?_ ?_ | refine wl_and127 ?_ ?_ | refine wl_or128 ?_ ?_ ?_) | ((with_reducible refine wl_conv ?_ ?_ ?_ ?_); (· kernel_rfl); (· kernel_rfl)) | ((with_reducible refine wl_len ?_ ?_ ?_); rotate_left 1; (· simp [evb, kb, hN, sdb]); rotate_left 1; (· kernel_rfl)) | ((with_reducible refine wl_lenS ?_ ?_ ?_); rotate_left 1; (· simp [evb, kb, hN, sdb]); rotate_left 1; (· kernel_rfl))) <;> (first | (with_reducible refine wl_id ?_; try simp only [evb, kb, hN, Nat.reduceLT, Nat.reduceEqDiff, reduceIte, Int.reduceToNat, Int.reduceBEq]) | (simp [evb, kb, hN, sdb] <;> omega)))))
        by_cases h16 : i < 16
        · have e1 : (decide ((i : Int) < 16)) = true := decide_eq_true (by omega)
          (repeat (first | ((first | (with_reducible first | refine wl_move ?_ | refine wl_assign ?_ | refine wl_add ?_ ?_ | refine wl_sub ?_ ?_ | refine wl_lss ?_ ?_ | refine wl_leq ?_ ?_ | refine wl_gtr ?_ ?_ | refine wl_geq ?_ ?_ | refine wl_eql ?_ ?_ | refine wl_neq ?_ ?_ | refine wl_not ?_ ?_ | refine wl_shr ?_ ?_ ?_ | refine wl_and127 ?_ ?_ | refine wl_or128 ?_ ?_ ?_ | refine wl_min ?_ ?_ ?_ | refine wl_max ?_ ?_ ?_ | refine wl_mul ?_ ?_) | ((with_reducible refine wl_conv ?_ ?_ ?_ ?_); (· kernel_rfl); (· kernel_rfl)) | ((with_reducible refine wl_len ?_ ?_ ?_); rotate_left 1; (· simp [evb, kb, hN, e1, byteV, bigb, sdb]); rotate_left 1; (· kernel_rfl)) | ((with_reducible refine wl_lenS ?_ ?_ ?_); rotate_left 1; (· simp [evb, kb, hN, e1, byteV, bigb, sdb]); rotate_left 1; (· kernel_rfl)) | ((with_reducible refine wl_pickT ?_ ?_); (· simp [evb, kb, hN, e1, byteV, bigb, sdb])) | ((with_reducible refine wl_pickF ?_ ?_); (· simp [evb, kb, hN, e1, byteV, bigb, sdb]))) <;> (first | (with_reducible refine wl_id ?_; try simp only [evb, kb, hN, Nat.reduceLT, Nat.reduceEqDiff, reduceIte, Int.reduceToNat, Int.reduceBEq, e1, byteV, bigb]) | (simp [evb, kb, hN, e1, byteV, bigb, sdb] <;> omega))) | ((with_reducible apply wl_gyesB); (· exact rfl); (· exact rfl); (· simp [evb, kb, hN, e1, byteV, bigb, sdb]); try simp only [evb, kb, hN, Nat.reduceLT, Nat.reduceEqDiff, reduceIte, Int.reduceToNat, Int.reduceBEq, e1, byteV, bigb]) | ((with_reducible apply wl_gnoB); (· exact rfl); (· exact rfl); (· simp [evb, kb, hN, e1, byteV, bigb, sdb]); try simp only [evb, kb, hN, Nat.reduceLT, Nat.reduceEqDiff, reduceIte, Int.reduceToNat, Int.reduceBEq, e1, byteV, bigb]) | ((with_reducible apply wl_gnoU); (· exact rfl); (· exact rfl); (· simp [evb, kb, hN, e1, byteV, bigb, sdb]); try simp only [evb, kb, hN, Nat.reduceLT, Nat.reduceEqDiff, reduceIte, Int.reduceToNat, Int.reduceBEq, e1, byteV, bigb])))
          refine wl_nil (hK _ _ ?_)
          clear hK K
          by_cases hz : v.b[i] = 0
          · refine wp_cond_false (by simp [evb, kb, hN, hz, sdb]) ?_
            refine wp_skip ⟨⟨by simp only [evb, kb, hN, Nat.reduceLT, Nat.reduceEqDiff, reduceIte, Int.reduceToNat, Int.reduceBEq], by simp [defers_put, hD], by simp only [evb, kb, hN, Nat.reduceLT, Nat.reduceEqDiff, reduceIte, Int.reduceToNat, Int.reduceBEq, g22], rfl, ?_⟩, by simp only [evb, kb, hN, Nat.reduceLT, Nat.reduceEqDiff, reduceIte, Int.reduceToNat, Int.reduceBEq, g1], by simp only [evb, kb, hN, Nat.reduceLT, Nat.reduceEqDiff, reduceIte, Int.reduceToNat, Int.reduceBEq, g2]⟩
            rw [Nat.min_eq_left (by omega)] at hall ⊢
            rw [List.take_add_one, List.all_append, hall]
            simp [hi, hz]
          · have hz2 : ((v.b[i].toNat : Int) != 0) = true := by
              have : ¬ (v.b[i].toNat = 0) := fun h => hz (UInt8.toNat_inj.1 h)
              simp; omega
            refine wp_cond_true (by simp [evb, kb, hN, hz2, sdb]) ?_
            (repeat (first | (with_reducible refine wp_seq_k (fun K hK => ?_)) | (with_reducible refine wp_block ?_) | ((with_reducible refine wp_reg ?_); (repeat (first | ((first | (with_reducible first | refine wl_move ?_ | refine wl_assign ?_ | refine wl_add ?_ ?_ | refine wl_sub ?_ ?_ | refine wl_lss ?_ ?_ | refine wl_leq ?_ ?_ | refine wl_gtr ?_ ?_ | refine wl_geq ?_ ?_ | refine wl_eql ?_ ?_ | refine wl_neq ?_ ?_ | refine wl_not ?_ ?_ | refine wl_shr ?_ ?_ ?_ | refine wl_and127 ?_ ?_ | refine wl_or128 ?_ ?_ ?_ | refine wl_min ?_ ?_ ?_ | refine wl_max ?_ ?_ ?_ | refine wl_mul ?_ ?_) | ((with_reducible refine wl_conv ?_ ?_ ?_ ?_); (· kernel_rfl); (· kernel_rfl)) | ((with_reducible refine wl_len ?_ ?_ ?_); rotate_left 1; (· simp [evb, kb, hN, bigb, sdb]); rotate_left 1; (· kernel_rfl)) | ((with_reducible refine wl_lenS ?_ ?_ ?_); rotate_left 1; (· simp [evb, kb, hN, bigb, sdb]); rotate_left 1; (· kernel_rfl)) | ((with_reducible refine wl_pickT ?_ ?_); (· simp [evb, kb, hN, bigb, sdb])) | ((with_reducible refine wl_pickF ?_ ?_); (· simp [evb, kb, hN, bigb, sdb]))) <;> (first | (with_reducible refine wl_id ?_; try simp only [evb, kb, hN, Nat.reduceLT, Nat.reduceEqDiff, reduceIte, Int.reduceToNat, Int.reduceBEq, bigb]) | (simp [evb, kb, hN, bigb, sdb] <;> omega))) | ((with_reducible apply wl_gyesB); (· exact rfl); (· exact rfl); (· simp [evb, kb, hN, bigb, sdb]); try simp only [evb, kb, hN, Nat.reduceLT, Nat.reduceEqDiff, reduceIte, Int.reduceToNat, Int.reduceBEq, bigb]) | ((with_reducible apply wl_gnoB); (· exact rfl); (· exact rfl); (· simp [evb, kb, hN, bigb, sdb]); try simp only [evb, kb, hN, Nat.reduceLT, Nat.reduceEqDiff, reduceIte, Int.reduceToNat, Int.reduceBEq, bigb]) | ((with_reducible apply wl_gnoU); (· exact rfl); (· exact rfl); (· simp [evb, kb, hN, bigb, sdb]); try simp only [evb, kb, hN, Nat.reduceLT, Nat.reduceEqDiff, reduceIte, Int.reduceToNat, Int.reduceBEq, bigb]))); (refine wl_nil ?_)) | ((with_reducible refine wp_cond_true ?_ ?_); (· simp [evb, kb, hN, sdb])) | ((with_reducible refine wp_cond_false ?_ ?_); (· simp [evb, kb, hN, sdb])) | (with_reducible refine wp_skip ?_) | (refine hK _ _ ?_; clear hK K)))
            refine wp_ret ⟨by simp [defers_put, hD], ?_⟩; simp only [evb, kb, hN, Nat.reduceLT, Nat.reduceEqDiff, reduceIte, Int.reduceToNat, Int.reduceBEq]
            refine ⟨?_, hc⟩
            have : (v.b.take 16).all (· == 0) = false := by
              rw [List.all_eq_false]
              exact ⟨v.b[i], List.mem_of_getElem? (i := i) (by rw [List.getElem?_take_of_lt h16]; simp), by simpa using hz⟩
            unfold sUsual
            simp only [this]
        · have e1 : (decide ((i : Int) < 16)) = false := decide_eq_false (by omega)
          (repeat (first | ((first | (with_reducible first | refine wl_move ?_ | refine wl_assign ?_ | refine wl_add ?_ ?_ | refine wl_sub ?_ ?_ | refine wl_lss ?_ ?_ | refine wl_leq ?_ ?_ | refine wl_gtr ?_ ?_ | refine wl_geq ?_ ?_ | refine wl_eql ?_ ?_ | refine wl_neq ?_ ?_ | refine wl_not ?_ ?_ | refine wl_shr ?_ ?_ ?_ | refine wl_and127 ?_ ?_ | refine wl_or128 ?_ ?_ ?_ | refine wl_min ?_ ?_ ?_ | refine wl_max ?_ ?_ ?_ | refine wl_mul ?_ ?_) | ((with_reducible refine wl_conv ?_ ?_ ?_ ?_); (· kernel_rfl); (· kernel_rfl)) | ((with_reducible refine wl_len ?_ ?_ ?_); rotate_left 1; (· simp [evb, kb, hN, e1, bigb, sdb]); rotate_left 1; (· kernel_rfl)) | ((with_reducible refine wl_lenS ?_ ?_ ?_); rotate_left 1; (· simp [evb, kb, hN, e1, bigb, sdb]); rotate_left 1; (· kernel_rfl)) | ((with_reducible refine wl_pickT ?_ ?_); (· simp [evb, kb, hN, e1, bigb, sdb])) | ((with_reducible refine wl_pickF ?_ ?_); (· simp [evb, kb, hN, e1, bigb, sdb]))) <;> (first | (with_reducible refine wl_id ?_; try simp only [evb, kb, hN, Nat.reduceLT, Nat.reduceEqDiff, reduceIte, Int.reduceToNat, Int.reduceBEq, e1, bigb]) | (simp [evb, kb, hN, e1, bigb, sdb] <;> omega))) | ((with_reducible apply wl_gyesB); (· exact rfl); (· exact rfl); (· simp [evb, kb, hN, e1, bigb, sdb]); try simp only [evb, kb, hN, Nat.reduceLT, Nat.reduceEqDiff, reduceIte, Int.reduceToNat, Int.reduceBEq, e1, bigb]) | ((with_reducible apply wl_gnoB); (· exact rfl); (· exact rfl); (· simp [evb, kb, hN, e1, bigb, sdb]); try simp only [evb, kb, hN, Nat.reduceLT, Nat.reduceEqDiff, reduceIte, Int.reduceToNat, Int.reduceBEq, e1, bigb]) | ((with_reducible apply wl_gnoU); (· exact rfl); (· exact rfl); (· simp [evb, kb, hN, e1, bigb, sdb]); try simp only [evb, kb, hN, Nat.reduceLT, Nat.reduceEqDiff, reduceIte, Int.reduceToNat, Int.reduceBEq, e1, bigb])))
          refine wl_nil (hK _ _ ?_)
          clear hK K
          refine wp_cond_false (by simp [evb, kb, hN, sdb]) ?_
          refine wp_skip ⟨⟨by simp only [evb, kb, hN, Nat.reduceLT, Nat.reduceEqDiff, reduceIte, Int.reduceToNat, Int.reduceBEq], by simp [defers_put, hD], by simp only [evb, kb, hN, Nat.reduceLT, Nat.reduceEqDiff, reduceIte, Int.reduceToNat, Int.reduceBEq, g22], rfl, ?_⟩, by simp only [evb, kb, hN, Nat.reduceLT, Nat.reduceEqDiff, reduceIte, Int.reduceToNat, Int.reduceBEq, g1], by simp only [evb, kb, hN, Nat.reduceLT, Nat.reduceEqDiff, reduceIte, Int.reduceToNat, Int.reduceBEq, g2]⟩
          rw [Nat.min_eq_right (by omega)] at hall ⊢
          exact hall
      · rintro a1 w1 ⟨hN, hD, g22, rfl, hall⟩
        refine hK _ _ ?_
        clear hK K
        (repeat (first | (with_reducible refine wp_seq_k (fun K hK => ?_)) | (with_reducible refine wp_block ?_) | ((with_reducible refine wp_reg ?_); (repeat (first | ((first | (with_reducible first | refine wl_move ?_ | refine wl_assign ?_ | refine wl_add ?_ ?_ | refine wl_sub ?_ ?_ | refine wl_lss ?_ ?_ | refine wl_leq ?_ ?_ | refine wl_gtr ?_ ?_ | refine wl_geq ?_ ?_ | refine wl_eql ?_ ?_ | refine wl_neq ?_ ?_ | refine wl_not ?_ ?_ | refine wl_shr ?_ ?_ ?_ | refine wl_and127 ?_ ?_ | refine wl_or128 ?_ ?_ ?_ | refine wl_min ?_ ?_ ?_ | refine wl_max ?_ ?_ ?_ | refine wl_mul ?_ ?_) | ((with_reducible refine wl_conv ?_ ?_ ?_ ?_); (· kernel_rfl); (· kernel_rfl)) | ((with_reducible refine wl_len ?_ ?_ ?_); rotate_left 1; (· simp [evb, kb, hN, bigb, sdb]); rotate_left 1; (· kernel_rfl)) | ((with_reducible refine wl_lenS ?_ ?_ ?_); rotate_left 1; (· simp [evb, kb, hN, bigb, sdb]); rotate_left 1; (· kernel_rfl)) | ((with_reducible refine wl_pickT ?_ ?_); (· simp [evb, kb, hN, bigb, sdb])) | ((with_reducible refine wl_pickF ?_ ?_); (· simp [evb, kb, hN, bigb, sdb]))) <;> (first | (with_reducible refine wl_id ?_; try simp only [evb, kb, hN, Nat.reduceLT, Nat.reduceEqDiff, reduceIte, Int.reduceToNat, Int.reduceBEq, bigb]) | (simp [evb, kb, hN, bigb, sdb] <;> omega))) | ((with_reducible apply wl_gyesB); (· exact rfl); (· exact rfl); (· simp [evb, kb, hN, bigb, sdb]); try simp only [evb, kb, hN, Nat.reduceLT, Nat.reduceEqDiff, reduceIte, Int.reduceToNat, Int.reduceBEq, bigb]) | ((with_reducible apply wl_gnoB); (· exact rfl); (· exact rfl); (· simp [evb, kb, hN, bigb, sdb]); try simp only [evb, kb, hN, Nat.reduceLT, Nat.reduceEqDiff, reduceIte, Int.reduceToNat, Int.reduceBEq, bigb]) | ((with_reducible apply wl_gnoU); (· exact rfl); (· exact rfl); (· simp [evb, kb, hN, bigb, sdb]); try simp only [evb, kb, hN, Nat.reduceLT, Nat.reduceEqDiff, reduceIte, Int.reduceToNat, Int.reduceBEq, bigb]))); (refine wl_nil ?_)) | ((with_reducible refine wp_cond_true ?_ ?_); (· simp [evb, kb, hN, sdb])) | ((with_reducible refine wp_cond_false ?_ ?_); (· simp [evb, kb, hN, sdb])) | (with_reducible refine wp_skip ?_) | (refine hK _ _ ?_; clear hK K)))
        refine wp_ret ⟨by simp [defers_put, hD], ?_⟩; simp only [evb, kb, hN, Nat.reduceLT, Nat.reduceEqDiff, reduceIte, Int.reduceToNat, Int.reduceBEq]
        refine ⟨?_, hc⟩
        have : v.b.take (min v.b.length 16) = v.b.take 16 := by
          by_cases h : v.b.length ≤ 16
          · rw [Nat.min_eq_left h, List.take_length, List.take_of_length_le h]
          · rw [Nat.min_eq_right (by omega)]
        rw [this] at hall
        unfold sUsual
        simp only [hall]
    case text | bytes =>
      (repeat (first | (with_reducible refine wp_seq_k (fun K hK => ?_)) | (with_reducible refine wp_block ?_) | ((with_reducible refine wp_reg ?_); (repeat (first | ((first | (with_reducible first | refine wl_move ?_ | refine wl_assign ?_ | refine wl_add ?_ ?_ | refine wl_sub ?_ ?_ | refine wl_lss ?_ ?_ | refine wl_leq ?_ ?_ | refine wl_gtr ?_ ?_ | refine wl_geq ?_ ?_ | refine wl_eql ?_ ?_ | refine wl_neq ?_ ?_ | refine wl_not ?_ ?_ | refine wl_shr ?_ ?_ ?_ | refine wl_and127 ?_ ?_ | refine wl_or128 ?_ ?_ ?_ | refine wl_min ?_ ?_ ?_ | refine wl_max ?_ ?_ ?_ | refine wl_mul ?_ ?_) | ((with_reducible refine wl_conv ?_ ?_ ?_ ?_); (· kernel_rfl); (· kernel_rfl)) | ((with_reducible refine wl_len ?_ ?_ ?_); rotate_left 1; (· simp [evb, kb, hN, kNum, bigb, sdb]); rotate_left 1; (· kernel_rfl)) | ((with_reducible refine wl_lenS ?_ ?_ ?_); rotate_left 1; (· simp [evb, kb, hN, kNum, bigb, sdb]); rotate_left 1; (· kernel_rfl)) | ((with_reducible refine wl_pickT ?_ ?_); (· simp [evb, kb, hN, kNum, bigb, sdb])) | ((with_reducible refine wl_pickF ?_ ?_); (· simp [evb, kb, hN, kNum, bigb, sdb]))) <;> (first | (with_reducible refine wl_id ?_; try simp only [evb, kb, hN, Nat.reduceLT, Nat.reduceEqDiff, reduceIte, Int.reduceToNat, Int.reduceBEq, kNum, bigb]) | (simp [evb, kb, hN, kNum, bigb, sdb] <;> omega))) | ((with_reducible apply wl_gyesB); (· exact rfl); (· exact rfl); (· simp [evb, kb, hN, kNum, bigb, sdb]); try simp only [evb, kb, hN, Nat.reduceLT, Nat.reduceEqDiff, reduceIte, Int.reduceToNat, Int.reduceBEq, kNum, bigb]) | ((with_reducible apply wl_gnoB); (· exact rfl); (· exact rfl); (· simp [evb, kb, hN, kNum, bigb, sdb]); try simp only [evb, kb, hN, Nat.reduceLT, Nat.reduceEqDiff, reduceIte, Int.reduceToNat, Int.reduceBEq, kNum, bigb]) | ((with_reducible apply wl_gnoU); (· exact rfl); (· exact rfl); (· simp [evb, kb, hN, kNum, bigb, sdb]); try simp only [evb, kb, hN, Nat.reduceLT, Nat.reduceEqDiff, reduceIte, Int.reduceToNat, Int.reduceBEq, kNum, bigb]))); (refine wl_nil ?_)) | ((with_reducible refine wp_cond_true ?_ ?_); (· simp [evb, kb, hN, kNum, sdb])) | ((with_reducible refine wp_cond_false ?_ ?_); (· simp [evb, kb, hN, kNum, sdb])) | (with_reducible refine wp_skip ?_) | (refine hK _ _ ?_; clear hK K)))
      refine wp_reg ?_
      with_reducible refine wl_fieldAt (b := w.heap.size) (off := 3) (n := 1) ?_ ?_ ?_; (· kernel_rfl); (· simp [evb, kb, hN, sdb])
      with_reducible refine wl_load (b := w.heap.size) (o := 3) ?_ ?_ hb c3 ?_; (· kernel_rfl); (· simp [evb, kb, hN, sdb])
      (repeat (first | ((first | (with_reducible first | refine wl_move ?_ | refine wl_assign ?_ | refine wl_add ?_ ?_ | refine wl_sub ?_ ?_ | refine wl_lss ?_ ?_ | refine wl_leq ?_ ?_ | refine wl_gtr ?_ ?_ | refine wl_geq ?_ ?_ | refine wl_eql ?_ ?_ | refine wl_neq ?_ ?_ | refine wl_not ?_ ?_ | refine wl_shr ?_ ?_ ?_ | refine wl_and127 ?_ ?_ | refine wl_or128 ?_ ?_ ?_) | ((with_reducible refine wl_conv ?_ ?_ ?_ ?_); (· kernel_rfl); (· kernel_rfl)) | ((with_reducible refine wl_len ?_ ?_ ?_); rotate_left 1; (· simp [evb, kb, hN, sdb]); rotate_left 1; (· kernel_rfl)) | ((with_reducible refine wl_lenS ?_ ?_ ?_); rotate_left 1; (· simp [evb, kb, hN, sdb]); rotate_left 1; (· kernel_rfl))) <;> (first | (with_reducible refine wl_id ?_; try simp only [evb, kb, hN, Nat.reduceLT, Nat.reduceEqDiff, reduceIte, Int.reduceToNat, Int.reduceBEq]) | (simp [evb, kb, hN, sdb] <;> omega)))))
      by_cases hnl : 0 ≤ nl
      · refine wl_nil (hK _ _ ?_)
        clear hK K
        refine wp_cond_true (by simp [evb, kb, hN, hnl, sdb]) ?_
        refine wp_seq_k fun K hK => ?_; refine wp_reg ?_
        with_reducible refine wl_fieldAt (b := w.heap.size + 1) (off := 2) (n := 1) ?_ ?_ ?_; (· kernel_rfl); (· simp [evb, kb, hN, sdb])
        with_reducible refine wl_load (b := w.heap.size + 1) (o := 2) ?_ ?_ hb2 t2 ?_; (· kernel_rfl); (· simp [evb, kb, hN, sdb])
        (repeat (first | ((first | (with_reducible first | refine wl_move ?_ | refine wl_assign ?_ | refine wl_add ?_ ?_ | refine wl_sub ?_ ?_ | refine wl_lss ?_ ?_ | refine wl_leq ?_ ?_ | refine wl_gtr ?_ ?_ | refine wl_geq ?_ ?_ | refine wl_eql ?_ ?_ | refine wl_neq ?_ ?_ | refine wl_not ?_ ?_ | refine wl_shr ?_ ?_ ?_ | refine wl_and127 ?_ ?_ | refine wl_or128 ?_ ?_ ?_) | ((with_reducible refine wl_conv ?_ ?_ ?_ ?_); (· kernel_rfl); (· kernel_rfl)) | ((with_reducible refine wl_len ?_ ?_ ?_); rotate_left 1; (· simp [evb, kb, hN, sdb]); rotate_left 1; (· kernel_rfl)) | ((with_reducible refine wl_lenS ?_ ?_ ?_); rotate_left 1; (· simp [evb, kb, hN, sdb]); rotate_left 1; (· kernel_rfl))) <;> (first | (with_reducible refine wl_id ?_; try simp only [evb, kb, hN, Nat.reduceLT, Nat.reduceEqDiff, reduceIte, Int.reduceToNat, Int.reduceBEq]) | (simp [evb, kb, hN, sdb] <;> omega)))))
        refine wl_nil ?_; refine hK _ _ ?_; clear hK K
        refine wp_ret ⟨by simp [defers_put, hD], ?_⟩; simp only [evb, kb, hN, Nat.reduceLT, Nat.reduceEqDiff, reduceIte, Int.reduceToNat, Int.reduceBEq]
        refine ⟨?_, hc⟩
        unfold sUsual
        simp only [if_pos hnl]
      · refine wl_nil (hK _ _ ?_)
        clear hK K
        refine wp_cond_false (by simp [evb, kb, hN, hnl, sdb]) ?_
        (repeat (first | (with_reducible refine wp_seq_k (fun K hK => ?_)) | (with_reducible refine wp_block ?_) | ((with_reducible refine wp_reg ?_); (repeat (first | ((first | (with_reducible first | refine wl_move ?_ | refine wl_assign ?_ | refine wl_add ?_ ?_ | refine wl_sub ?_ ?_ | refine wl_lss ?_ ?_ | refine wl_leq ?_ ?_ | refine wl_gtr ?_ ?_ | refine wl_geq ?_ ?_ | refine wl_eql ?_ ?_ | refine wl_neq ?_ ?_ | refine wl_not ?_ ?_ | refine wl_shr ?_ ?_ ?_ | refine wl_and127 ?_ ?_ | refine wl_or128 ?_ ?_ ?_ | refine wl_min ?_ ?_ ?_ | refine wl_max ?_ ?_ ?_ | refine wl_mul ?_ ?_) | ((with_reducible refine wl_conv ?_ ?_ ?_ ?_); (· kernel_rfl); (· kernel_rfl)) | ((with_reducible refine wl_len ?_ ?_ ?_); rotate_left 1; (· simp [evb, kb, hN, bigb, sdb]); rotate_left 1; (· kernel_rfl)) | ((with_reducible refine wl_lenS ?_ ?_ ?_); rotate_left 1; (· simp [evb, kb, hN, bigb, sdb]); rotate_left 1; (· kernel_rfl)) | ((with_reducible refine wl_pickT ?_ ?_); (· simp [evb, kb, hN, bigb, sdb])) | ((with_reducible refine wl_pickF ?_ ?_); (· simp [evb, kb, hN, bigb, sdb]))) <;> (first | (with_reducible refine wl_id ?_; try simp only [evb, kb, hN, Nat.reduceLT, Nat.reduceEqDiff, reduceIte, Int.reduceToNat, Int.reduceBEq, bigb]) | (simp [evb, kb, hN, bigb, sdb] <;> omega))) | ((with_reducible apply wl_gyesB); (· exact rfl); (· exact rfl); (· simp [evb, kb, hN, bigb, sdb]); try simp only [evb, kb, hN, Nat.reduceLT, Nat.reduceEqDiff, reduceIte, Int.reduceToNat, Int.reduceBEq, bigb]) | ((with_reducible apply wl_gnoB); (· exact rfl); (· exact rfl); (· simp [evb, kb, hN, bigb, sdb]); try simp only [evb, kb, hN, Nat.reduceLT, Nat.reduceEqDiff, reduceIte, Int.reduceToNat, Int.reduceBEq, bigb]) | ((with_reducible apply wl_gnoU); (· exact rfl); (· exact rfl); (· simp [evb, kb, hN, bigb, sdb]); try simp only [evb, kb, hN, Nat.reduceLT, Nat.reduceEqDiff, reduceIte, Int.reduceToNat, Int.reduceBEq, bigb]))); (refine wl_nil ?_)) | ((with_reducible refine wp_cond_true ?_ ?_); (· simp [evb, kb, hN, sdb])) | ((with_reducible refine wp_cond_false ?_ ?_); (· simp [evb, kb, hN, sdb])) | (with_reducible refine wp_skip ?_) | (refine hK _ _ ?_; clear hK K)))
        refine wp_reg ?_
        with_reducible refine wl_fieldAt (b := w.heap.size + 1) (off := 1) (n := 1) ?_ ?_ ?_; (· kernel_rfl); (· simp [evb, kb, hN, sdb])
        with_reducible refine wl_load (b := w.heap.size + 1) (o := 1) ?_ ?_ hb2 t1 ?_; (· kernel_rfl); (· simp [evb, kb, hN, sdb])
        (repeat (first | ((first | (with_reducible first | refine wl_move ?_ | refine wl_assign ?_ | refine wl_add ?_ ?_ | refine wl_sub ?_ ?_ | refine wl_lss ?_ ?_ | refine wl_leq ?_ ?_ | refine wl_gtr ?_ ?_ | refine wl_geq ?_ ?_ | refine wl_eql ?_ ?_ | refine wl_neq ?_ ?_ | refine wl_not ?_ ?_ | refine wl_shr ?_ ?_ ?_ | refine wl_and127 ?_ ?_ | refine wl_or128 ?_ ?_ ?_) | ((with_reducible refine wl_conv ?_ ?_ ?_ ?_); (· kernel_rfl); (· kernel_rfl)) | ((with_reducible refine wl_len ?_ ?_ ?_); rotate_left 1; (· simp [evb, kb, hN, sdb]); rotate_left 1; (· kernel_rfl)) | ((with_reducible refine wl_lenS ?_ ?_ ?_); rotate_left 1; (· simp [evb, kb, hN, sdb]); rotate_left 1; (· kernel_rfl))) <;> (first | (with_reducible refine wl_id ?_; try simp only [evb, kb, hN, Nat.reduceLT, Nat.reduceEqDiff, reduceIte, Int.reduceToNat, Int.reduceBEq]) | (simp [evb, kb, hN, sdb] <;> omega)))))
        refine wl_nil ?_; refine hK _ _ ?_; clear hK K
        refine wp_ret ⟨by simp [defers_put, hD], ?_⟩; simp only [evb, kb, hN, Nat.reduceLT, Nat.reduceEqDiff, reduceIte, Int.reduceToNat, Int.reduceBEq]
        refine ⟨?_, hc⟩
        unfold sUsual
        simp only [if_neg hnl]
        cases v.b <;> simp
        omega
    case list =>
      (repeat (first | (with_reducible refine wp_seq_k (fun K hK => ?_)) | (with_reducible refine wp_block ?_) | ((with_reducible refine wp_reg ?_); (repeat (first | ((first | (with_reducible first | refine wl_move ?_ | refine wl_assign ?_ | refine wl_add ?_ ?_ | refine wl_sub ?_ ?_ | refine wl_lss ?_ ?_ | refine wl_leq ?_ ?_ | refine wl_gtr ?_ ?_ | refine wl_geq ?_ ?_ | refine wl_eql ?_ ?_ | refine wl_neq ?_ ?_ | refine wl_not ?_ ?_ | refine wl_shr ?_ ?_ ?_ | refine wl_and127 ?_ ?_ | refine wl_or128 ?_ ?_ ?_ | refine wl_min ?_ ?_ ?_ | refine wl_max ?_ ?_ ?_ | refine wl_mul ?_ ?_) | ((with_reducible refine wl_conv ?_ ?_ ?_ ?_); (· kernel_rfl); (· kernel_rfl)) | ((with_reducible refine wl_len ?_ ?_ ?_); rotate_left 1; (· simp [evb, kb, hN, kNum, bigb, sdb]); rotate_left 1; (· kernel_rfl)) | ((with_reducible refine wl_lenS ?_ ?_ ?_); rotate_left 1; (· simp [evb, kb, hN, kNum, bigb, sdb]); rotate_left 1; (· kernel_rfl)) | ((with_reducible refine wl_pickT ?_ ?_); (· simp [evb, kb, hN, kNum, bigb, sdb])) | ((with_reducible refine wl_pickF ?_ ?_); (· simp [evb, kb, hN, kNum, bigb, sdb]))) <;> (first | (with_reducible refine wl_id ?_; try simp only [evb, kb, hN, Nat.reduceLT, Nat.reduceEqDiff, reduceIte, Int.reduceToNat, Int.reduceBEq, kNum, bigb]) | (simp [evb, kb, hN, kNum, bigb, sdb] <;> omega))) | ((with_reducible apply wl_gyesB); (· exact rfl); (· exact rfl); (· simp [evb, kb, hN, kNum, bigb, sdb]); try simp only [evb, kb, hN, Nat.reduceLT, Nat.reduceEqDiff, reduceIte, Int.reduceToNat, Int.reduceBEq, kNum, bigb]) | ((with_reducible apply wl_gnoB); (· exact rfl); (· exact rfl); (· simp [evb, kb, hN, kNum, bigb, sdb]); try simp only [evb, kb, hN, Nat.reduceLT, Nat.reduceEqDiff, reduceIte, Int.reduceToNat, Int.reduceBEq, kNum, bigb]) | ((with_reducible apply wl_gnoU); (· exact rfl); (· exact rfl); (· simp [evb, kb, hN, kNum, bigb, sdb]); try simp only [evb, kb, hN, Nat.reduceLT, Nat.reduceEqDiff, reduceIte, Int.reduceToNat, Int.reduceBEq, kNum, bigb]))); (refine wl_nil ?_)) | ((with_reducible refine wp_cond_true ?_ ?_); (· simp [evb, kb, hN, kNum, sdb])) | ((with_reducible refine wp_cond_false ?_ ?_); (· simp [evb, kb, hN, kNum, sdb])) | (with_reducible refine wp_skip ?_) | (refine hK _ _ ?_; clear hK K)))
      refine wp_reg ?_
      with_reducible refine wl_fieldAt (b := w.heap.size + 1) (off := 3) (n := 1) ?_ ?_ ?_; (· kernel_rfl); (· simp [evb, kb, hN, sdb])
      obtain ⟨ol, cl, rfl, hcl, hl⟩ := hx3
      with_reducible refine wl_load (b := w.heap.size + 1) (o := 3) ?_ ?_ hb2 t3 ?_; (· kernel_rfl); (· simp [evb, kb, hN, sdb])
      (repeat (first | ((first | (with_reducible first | refine wl_move ?_ | refine wl_assign ?_ | refine wl_add ?_ ?_ | refine wl_sub ?_ ?_ | refine wl_lss ?_ ?_ | refine wl_leq ?_ ?_ | refine wl_gtr ?_ ?_ | refine wl_geq ?_ ?_ | refine wl_eql ?_ ?_ | refine wl_neq ?_ ?_ | refine wl_not ?_ ?_ | refine wl_shr ?_ ?_ ?_ | refine wl_and127 ?_ ?_ | refine wl_or128 ?_ ?_ ?_) | ((with_reducible refine wl_conv ?_ ?_ ?_ ?_); (· kernel_rfl); (· kernel_rfl)) | ((with_reducible refine wl_len ?_ ?_ ?_); rotate_left 1; (· simp [evb, kb, hN, sdb]); rotate_left 1; (· kernel_rfl)) | ((with_reducible refine wl_lenS ?_ ?_ ?_); rotate_left 1; (· simp [evb, kb, hN, sdb]); rotate_left 1; (· kernel_rfl))) <;> (first | (with_reducible refine wl_id ?_; try simp only [evb, kb, hN, Nat.reduceLT, Nat.reduceEqDiff, reduceIte, Int.reduceToNat, Int.reduceBEq]) | (simp [evb, kb, hN, sdb] <;> omega)))))
      refine wl_nil ?_; refine hK _ _ ?_; clear hK K
      refine wp_ret ⟨by simp [defers_put, hD], ?_⟩; simp only [evb, kb, hN, Nat.reduceLT, Nat.reduceEqDiff, reduceIte, Int.reduceToNat, Int.reduceBEq]
      refine ⟨?_, hc⟩
      unfold sUsual
      cases v.l <;> simp
      omega
    case struct =>
      (repeat (first | (with_reducible refine wp_seq_k (fun K hK => ?_)) | (with_reducible refine wp_block ?_) | ((with_reducible refine wp_reg ?_); (repeat (first | ((first | (with_reducible first | refine wl_move ?_ | refine wl_assign ?_ | refine wl_add ?_ ?_ | refine wl_sub ?_ ?_ | refine wl_lss ?_ ?_ | refine wl_leq ?_ ?_ | refine wl_gtr ?_ ?_ | refine wl_geq ?_ ?_ | refine wl_eql ?_ ?_ | refine wl_neq ?_ ?_ | refine wl_not ?_ ?_ | refine wl_shr ?_ ?_ ?_ | refine wl_and127 ?_ ?_ | refine wl_or128 ?_ ?_ ?_ | refine wl_min ?_ ?_ ?_ | refine wl_max ?_ ?_ ?_ | refine wl_mul ?_ ?_) | ((with_reducible refine wl_conv ?_ ?_ ?_ ?_); (· kernel_rfl); (· kernel_rfl)) | ((with_reducible refine wl_len ?_ ?_ ?_); rotate_left 1; (· simp [evb, kb, hN, kNum, bigb, sdb]); rotate_left 1; (· kernel_rfl)) | ((with_reducible refine wl_lenS ?_ ?_ ?_); rotate_left 1; (· simp [evb, kb, hN, kNum, bigb, sdb]); rotate_left 1; (· kernel_rfl)) | ((with_reducible refine wl_pickT ?_ ?_); (· simp [evb, kb, hN, kNum, bigb, sdb])) | ((with_reducible refine wl_pickF ?_ ?_); (· simp [evb, kb, hN, kNum, bigb, sdb]))) <;> (first | (with_reducible refine wl_id ?_; try simp only [evb, kb, hN, Nat.reduceLT, Nat.reduceEqDiff, reduceIte, Int.reduceToNat, Int.reduceBEq, kNum, bigb]) | (simp [evb, kb, hN, kNum, bigb, sdb] <;> omega))) | ((with_reducible apply wl_gyesB); (· exact rfl); (· exact rfl); (· simp [evb, kb, hN, kNum, bigb, sdb]); try simp only [evb, kb, hN, Nat.reduceLT, Nat.reduceEqDiff, reduceIte, Int.reduceToNat, Int.reduceBEq, kNum, bigb]) | ((with_reducible apply wl_gnoB); (· exact rfl); (· exact rfl); (· simp [evb, kb, hN, kNum, bigb, sdb]); try simp only [evb, kb, hN, Nat.reduceLT, Nat.reduceEqDiff, reduceIte, Int.reduceToNat, Int.reduceBEq, kNum, bigb]) | ((with_reducible apply wl_gnoU); (· exact rfl); (· exact rfl); (· simp [evb, kb, hN, kNum, bigb, sdb]); try simp only [evb, kb, hN, Nat.reduceLT, Nat.reduceEqDiff, reduceIte, Int.reduceToNat, Int.reduceBEq, kNum, bigb]))); (refine wl_nil ?_)) | ((with_reducible refine wp_cond_true ?_ ?_); (· simp [evb, kb, hN, kNum, sdb])) | ((with_reducible refine wp_cond_false ?_ ?_); (· simp [evb, kb, hN, kNum, sdb])) | (with_reducible refine wp_skip ?_) | (refine hK _ _ ?_; clear hK K)))
      refine wp_reg ?_
      with_reducible refine wl_fieldAt (b := w.heap.size) (off := 7) (n := 1) ?_ ?_ ?_; (· kernel_rfl); (· simp [evb, kb, hN, sdb])
      with_reducible refine wl_load (b := w.heap.size) (o := 7) ?_ ?_ hb c7 ?_; (· kernel_rfl); (· simp [evb, kb, hN, sdb])
      unfold FOK at hfo
      obtain ⟨hlen, hlo⟩ := hfo
      have hx7' := hx7
      obtain ⟨oa, cap, rfl, _⟩ := hx7
      (repeat (first | ((first | (with_reducible first | refine wl_move ?_ | refine wl_assign ?_ | refine wl_add ?_ ?_ | refine wl_sub ?_ ?_ | refine wl_lss ?_ ?_ | refine wl_leq ?_ ?_ | refine wl_gtr ?_ ?_ | refine wl_geq ?_ ?_ | refine wl_eql ?_ ?_ | refine wl_neq ?_ ?_ | refine wl_not ?_ ?_ | refine wl_shr ?_ ?_ ?_ | refine wl_and127 ?_ ?_ | refine wl_or128 ?_ ?_ ?_) | ((with_reducible refine wl_conv ?_ ?_ ?_ ?_); (· kernel_rfl); (· kernel_rfl)) | ((with_reducible refine wl_len ?_ ?_ ?_); rotate_left 1; (· simp [evb, kb, hN, sdb]); rotate_left 1; (· kernel_rfl)) | ((with_reducible refine wl_lenS ?_ ?_ ?_); rotate_left 1; (· simp [evb, kb, hN, sdb]); rotate_left 1; (· kernel_rfl))) <;> (first | (with_reducible refine wl_id ?_; try simp only [evb, kb, hN, Nat.reduceLT, Nat.reduceEqDiff, reduceIte, Int.reduceToNat, Int.reduceBEq]) | (simp [evb, kb, hN, sdb] <;> omega)))))
      refine wl_nil ?_; refine hK _ _ ?_; clear hK K
      refine wp_range (n := sub.length) (fun i a' w' => a'.tmps.size = 91 ∧ a'.defers = [] ∧ get a' 57 = .slice oa sub.length cap ∧ get a' 2 = .pointer (some ⟨w.heap.size, 0, none⟩) ∧ get a' 3 = .pointer (some ⟨w.heap.size + 1, 0, none⟩) ∧ Chg (fun _ => False) w2 w' ∧ ∀ j f, j < i → sub[j]? = some f → sUsual f (v.th j) = true) 91 (by omega)
        (by simp only [evb, kb, hN, Nat.reduceLT, Nat.reduceEqDiff, reduceIte, Int.reduceToNat, Int.reduceBEq]) (by simp only [evb, kb, hN, Nat.reduceLT, Nat.reduceEqDiff, reduceIte, Int.reduceToNat, Int.reduceBEq]) ⟨by simp only [evb, kb, hN, Nat.reduceLT, Nat.reduceEqDiff, reduceIte, Int.reduceToNat, Int.reduceBEq], by simp [defers_put, hD], by simp only [evb, kb, hN, Nat.reduceLT, Nat.reduceEqDiff, reduceIte, Int.reduceToNat, Int.reduceBEq], by simp only [evb, kb, hN, Nat.reduceLT, Nat.reduceEqDiff, reduceIte, Int.reduceToNat, Int.reduceBEq], by simp only [evb, kb, hN, Nat.reduceLT, Nat.reduceEqDiff, reduceIte, Int.reduceToNat, Int.reduceBEq], Chg.refl _ _, fun _ _ h => by omega⟩ ?_ ?_ (by decide) ?_ ?_
      · rintro i a w ⟨h, _⟩; exact h
      · rintro i a w t v ht ⟨k1, k2, k3, k4, k5, k6⟩
        rcases ht with rfl | rfl | rfl <;> exact ⟨by rw [size_put]; exact k1, by rw [defers_put]; exact k2, by rw [get_put_ne (by decide)]; exact k3, by rw [get_put_ne (by decide)]; exact k4, by rw [get_put_ne (by decide)]; exact k5, k6⟩
      · clear hN hD
        rintro i a1 w1 hi ⟨hN, hD, g57, g2', g3, hch, hall⟩ g1 g2
        have hcw : Chg (fun _ => False) w w1 := hc.trans hch fun _ _ h => h
        have hf : sub[i]? = some sub[i] := by simp [hi]
        obtain ⟨b, fc, T, rfl, _, hG, hbk, hfc', hl⟩ := hx7'.get hf
        have hmem : sub[i] ∈ sub := List.getElem_mem hi
        have hbk1 := hbk.chg hcw (fun h => h)
        refine wp_seq_k fun K hK => ?_; refine wp_reg ?_
        (repeat (first | ((first | (with_reducible first | refine wl_move ?_ | refine wl_assign ?_ | refine wl_add ?_ ?_ | refine wl_sub ?_ ?_ | refine wl_lss ?_ ?_ | refine wl_leq ?_ ?_ | refine wl_gtr ?_ ?_ | refine wl_geq ?_ ?_ | refine wl_eql ?_ ?_ | refine wl_neq ?_ ?_ | refine wl_not ?_ ?_ | refine wl_shr ?_ ?_ ?_ | refine wl_and127 ?_ ?_ | refine wl_or128 ?_ ?_ ?_) | ((with_reducible refine wl_conv ?_ ?_ ?_ ?_); (· kernel_rfl); (· kernel_rfl)) | ((with_reducible refine wl_len ?_ ?_ ?_); rotate_left 1; (· simp [evb, kb, hN, g2, sdb]); rotate_left 1; (· kernel_rfl)) | ((with_reducible refine wl_lenS ?_ ?_ ?_); rotate_left 1; (· simp [evb, kb, hN, g2, sdb]); rotate_left 1; (· kernel_rfl))) <;> (first | (with_reducible refine wl_id ?_; try simp only [evb, kb, hN, Nat.reduceLT, Nat.reduceEqDiff, reduceIte, Int.reduceToNat, Int.reduceBEq, g2]) | (simp [evb, kb, hN, g2, sdb] <;> omega)))))
        refine wl_indexAddr (b := b) (o := 0) (k := .i64) (i := i) (n := 8) (len := sub.length) (cap := cap) (by kernel_rfl) (by simp [evb, kb, hN, g57, sdb]) (by simp [evb, kb, hN, g2, sdb]) hi ?_
        refine wl_loadAgg (b := b) (o := 0 + i * 8) (n := 8) (by kernel_rfl) (by kernel_rfl) (by simp [evb, kb, hN, sdb]) hbk1 (by omega) ?_
        rw [Nat.zero_add]
        refine wl_allocA (z := aggOf zFld) (fun w => Tryd.zeroValue44 w) fun w3 hc3 hb3 hs3 => ?_
        (repeat (first | ((first | (with_reducible first | refine wl_move ?_ | refine wl_assign ?_ | refine wl_add ?_ ?_ | refine wl_sub ?_ ?_ | refine wl_lss ?_ ?_ | refine wl_leq ?_ ?_ | refine wl_gtr ?_ ?_ | refine wl_geq ?_ ?_ | refine wl_eql ?_ ?_ | refine wl_neq ?_ ?_ | refine wl_not ?_ ?_ | refine wl_shr ?_ ?_ ?_ | refine wl_and127 ?_ ?_ | refine wl_or128 ?_ ?_ ?_) | ((with_reducible refine wl_conv ?_ ?_ ?_ ?_); (· kernel_rfl); (· kernel_rfl)) | ((with_reducible refine wl_len ?_ ?_ ?_); rotate_left 1; (· simp [evb, kb, hN, sdb]); rotate_left 1; (· kernel_rfl)) | ((with_reducible refine wl_lenS ?_ ?_ ?_); rotate_left 1; (· simp [evb, kb, hN, sdb]); rotate_left 1; (· kernel_rfl))) <;> (first | (with_reducible refine wl_id ?_; try simp only [evb, kb, hN, Nat.reduceLT, Nat.reduceEqDiff, reduceIte, Int.reduceToNat, Int.reduceBEq]) | (simp [evb, kb, hN, sdb] <;> omega)))))
        refine wl_storeAll (b := w1.heap.size) (n := 8) (l' := ((fc.drop (i * 8)).take 8)) (by kernel_rfl) (by simp [evb, kb, hN, sdb]) (by simp [evb, kb, hN, sdb]; rfl) hb3 hfc'.len hfc'.one rfl fun w4 hb4 hc4 => ?_
        have hch4 : Chg (fun _ => False) w1 w4 := hc3.trans hc4 fun n hn h => by omega
        have hch5 : Chg (fun _ => False) w2 w4 := hch.trans hch4 fun _ _ h => h
        refine wl_nil ?_; refine hK _ _ ?_; clear hK K
        refine wp_seq_k fun K5 hK5 => ?_
        have hbx := hb2.chg hch5 (fun h => h)
        refine wp_sched (fun w' => Chg (fun _ => False) w4 w') [(true, 0), (true, 1), (true, 2), (false, 3), (false, 4), (true, 5)] follows_any (by kernel_rfl) (by kernel_rfl) (Chg.drew _ _) ?_
        refine ws_loadAgg (b := w1.heap.size) (o := 0) (n := 8) (by kernel_rfl) (by kernel_rfl) rfl (by simp [evb, kb, hN, sdb]) (fun w' hw => hb4.chg hw (fun h => h)) (by rw [hfc'.len]; omega) ?_
        refine ws_loadAgg (b := w.heap.size + 1) (o := 0) (n := 5) (by kernel_rfl) (by kernel_rfl) rfl (by simp [evb, kb, hN, g3, sdb]) (fun w' hw => hbx.chg hw (fun h => h)) (by rw [hv.len]; omega) ?_
        refine ws_move rfl ?_
        simp only [evb, kb, hN, Nat.reduceLT, Nat.reduceEqDiff, reduceIte, Int.reduceToNat, Int.reduceBEq, g2]
        have e5 : (ts.drop 0).take 5 = ts := by rw [List.drop_zero, List.take_of_length_le (by rw [hv.len]; omega)]
        have e8 : (((fc.drop (i * 8)).take 8).drop 0).take 8 = (fc.drop (i * 8)).take 8 := by rw [List.drop_zero, List.take_of_length_le (by rw [hfc'.len]; omega)]
        rw [e5, e8]
        have hcw4 : Chg (fun _ => False) w w4.drew := (hcw.trans hch4 fun _ _ h => h).trans (Chg.drew _ _) fun _ _ h => h
        refine ws_call (fun args w => Tryd.call43 args w) rfl (by simp [evb, kb, hN, Nat.reduceLT, Nat.reduceEqDiff, reduceIte, Int.reduceToNat, Int.reduceBEq]; exact at_c v i (hv.stay (Stay.none hcw4))) ?_
        rintro _ w5 ⟨⟨rs, rfl, hrs⟩, hc5⟩
        have hk5 : Chg (fun _ => False) w4 w5 := (Chg.drew _ _).trans hc5 fun _ _ h => h
        refine ⟨hk5, ?_⟩
        have hcw5 : Chg (fun _ => False) w w5 := hcw4.trans hc5 fun _ _ h => h
        have : SizeOf.sizeOf sub[i] < SizeOf.sizeOf (Fld.mk .struct fr to nl tg df of sub) := by
          have := List.sizeOf_lt_of_mem hmem
          simp; omega
        refine ws_call (fun args w => Tryd.call45 args w) rfl (by simp [evb, kb, hN, Nat.reduceLT, Nat.reduceEqDiff, reduceIte, Int.reduceToNat, Int.reduceBEq]; exact usual_N N sub[i] (v.th i) (by omega) (hlo.mem _ hmem) (hvo.th tagOK_nil i) (hfc'.stay (Stay.none hcw5)) hrs) ?_
        rintro _ w6 ⟨rfl, hc6⟩
        have hk6 : Chg (fun _ => False) w4 w6 := hk5.trans hc6 fun _ _ h => h
        refine ⟨hk6, ?_⟩
        refine ws_not rfl (by simp [evb, kb, hN, sdb]) ?_
        simp only [evb, kb, hN, Nat.reduceLT, Nat.reduceEqDiff, reduceIte, Int.reduceToNat, Int.reduceBEq]
        refine ws_nil ?_
        refine hK5 _ _ ?_; try clear hK5 K5
        have hch6 : Chg (fun _ => False) w2 w6 := hch5.trans hk6 fun _ _ h => h
        cases hu : sUsual sub[i] (v.th i) with
        | true =>
          refine wp_cond_false (by simp [evb, kb, hN, hu, sdb]) ?_
          refine wp_skip ⟨⟨by simp only [evb, kb, hN, Nat.reduceLT, Nat.reduceEqDiff, reduceIte, Int.reduceToNat, Int.reduceBEq], by simp [defers_put, hD], by simp only [evb, kb, hN, Nat.reduceLT, Nat.reduceEqDiff, reduceIte, Int.reduceToNat, Int.reduceBEq, g57], by simp only [evb, kb, hN, Nat.reduceLT, Nat.reduceEqDiff, reduceIte, Int.reduceToNat, Int.reduceBEq, g2'], by simp only [evb, kb, hN, Nat.reduceLT, Nat.reduceEqDiff, reduceIte, Int.reduceToNat, Int.reduceBEq, g3], hch6, ?_⟩, by simp only [evb, kb, hN, Nat.reduceLT, Nat.reduceEqDiff, reduceIte, Int.reduceToNat, Int.reduceBEq, g1], by simp only [evb, kb, hN, Nat.reduceLT, Nat.reduceEqDiff, reduceIte, Int.reduceToNat, Int.reduceBEq, g2]⟩
          intro j f hj hjf
          by_cases hji : j = i
          · subst hji
            rw [hf] at hjf
            simp at hjf
            rw [← hjf]; exact hu
          · exact hall j f (by omega) hjf
        | false =>
          refine wp_cond_true (by simp [evb, kb, hN, hu, sdb]) ?_
          (repeat (first | (with_reducible refine wp_seq_k (fun K hK => ?_)) | (with_reducible refine wp_block ?_) | ((with_reducible refine wp_reg ?_); (repeat (first | ((first | (with_reducible first | refine wl_move ?_ | refine wl_assign ?_ | refine wl_add ?_ ?_ | refine wl_sub ?_ ?_ | refine wl_lss ?_ ?_ | refine wl_leq ?_ ?_ | refine wl_gtr ?_ ?_ | refine wl_geq ?_ ?_ | refine wl_eql ?_ ?_ | refine wl_neq ?_ ?_ | refine wl_not ?_ ?_ | refine wl_shr ?_ ?_ ?_ | refine wl_and127 ?_ ?_ | refine wl_or128 ?_ ?_ ?_ | refine wl_min ?_ ?_ ?_ | refine wl_max ?_ ?_ ?_ | refine wl_mul ?_ ?_) | ((with_reducible refine wl_conv ?_ ?_ ?_ ?_); (· kernel_rfl); (· kernel_rfl)) | ((with_reducible refine wl_len ?_ ?_ ?_); rotate_left 1; (· simp [evb, kb, hN, bigb, sdb]); rotate_left 1; (· kernel_rfl)) | ((with_reducible refine wl_lenS ?_ ?_ ?_); rotate_left 1; (· simp [evb, kb, hN, bigb, sdb]); rotate_left 1; (· kernel_rfl)) | ((with_reducible refine wl_pickT ?_ ?_); (· simp [evb, kb, hN, bigb, sdb])) | ((with_reducible refine wl_pickF ?_ ?_); (· simp [evb, kb, hN, bigb, sdb]))) <;> (first | (with_reducible refine wl_id ?_; try simp only [evb, kb, hN, Nat.reduceLT, Nat.reduceEqDiff, reduceIte, Int.reduceToNat, Int.reduceBEq, bigb]) | (simp [evb, kb, hN, bigb, sdb] <;> omega))) | ((with_reducible apply wl_gyesB); (· exact rfl); (· exact rfl); (· simp [evb, kb, hN, bigb, sdb]); try simp only [evb, kb, hN, Nat.reduceLT, Nat.reduceEqDiff, reduceIte, Int.reduceToNat, Int.reduceBEq, bigb]) | ((with_reducible apply wl_gnoB); (· exact rfl); (· exact rfl); (· simp [evb, kb, hN, bigb, sdb]); try simp only [evb, kb, hN, Nat.reduceLT, Nat.reduceEqDiff, reduceIte, Int.reduceToNat, Int.reduceBEq, bigb]) | ((with_reducible apply wl_gnoU); (· exact rfl); (· exact rfl); (· simp [evb, kb, hN, bigb, sdb]); try simp only [evb, kb, hN, Nat.reduceLT, Nat.reduceEqDiff, reduceIte, Int.reduceToNat, Int.reduceBEq, bigb]))); (refine wl_nil ?_)) | ((with_reducible refine wp_cond_true ?_ ?_); (· simp [evb, kb, hN, sdb])) | ((with_reducible refine wp_cond_false ?_ ?_); (· simp [evb, kb, hN, sdb])) | (with_reducible refine wp_skip ?_) | (refine hK _ _ ?_; clear hK K)))
          refine wp_ret ⟨by simp [defers_put, hD], ?_⟩; simp only [evb, kb, hN, Nat.reduceLT, Nat.reduceEqDiff, reduceIte, Int.reduceToNat, Int.reduceBEq]
          refine ⟨?_, hc.trans hch6 fun _ _ h => h⟩
          have : sUsualL sub v 0 = false := by
            cases h : sUsualL sub v 0 with
            | false => rfl
            | true =>
              have := (sUsualL_iff sub v 0).1 h i _ hf
              rw [Nat.zero_add, hu] at this
              cases this
          unfold sUsual
          simp [this]
      · clear hN hD
        rintro a1 w1 ⟨hN, hD, g57, g2', g3, hch, hall⟩
        refine hK _ _ ?_
        clear hK K
        have hb' := hb.chg hch (fun h => h)
        have hb2' := hb2.chg hch (fun h => h)
        have hcw : Chg (fun _ => False) w w1 := hc.trans hch fun _ _ h => h
        refine wp_seq_k fun K hK => ?_; refine wp_reg ?_
        with_reducible refine wl_fieldAt (b := w.heap.size) (off := 7) (n := 1) ?_ ?_ ?_
        · kernel_rfl
        · simp [evb, kb, hN, g2', sdb]
        with_reducible refine wl_load (b := w.heap.size) (o := 7) ?_ ?_ hb' c7 ?_; (· kernel_rfl); (· simp [evb, kb, hN, sdb])
        with_reducible refine wl_fieldAt (b := w.heap.size + 1) (off := 4) (n := 1) ?_ ?_ ?_
        · kernel_rfl
        · simp [evb, kb, hN, g3, sdb]
        with_reducible refine wl_load (b := w.heap.size + 1) (o := 4) ?_ ?_ hb2' t4 ?_; (· kernel_rfl); (· simp [evb, kb, hN, sdb])
        refine wl_call (fun args w => Tryd.call47 args w) (by simp [evb, kb, hN, Nat.reduceLT, Nat.reduceEqDiff, reduceIte, Int.reduceToNat, Int.reduceBEq]; exact unknown_c sub v.t hlen hlo.small hvo.parts.1 (hx7'.stay (Stay.none hcw)) (hx4.stay (Stay.none hcw))) ?_
        rintro v2 w5 ⟨⟨ot, ct, rfl, _, _⟩, hc5⟩
        (repeat (first | ((first | (with_reducible first | refine wl_move ?_ | refine wl_assign ?_ | refine wl_add ?_ ?_ | refine wl_sub ?_ ?_ | refine wl_lss ?_ ?_ | refine wl_leq ?_ ?_ | refine wl_gtr ?_ ?_ | refine wl_geq ?_ ?_ | refine wl_eql ?_ ?_ | refine wl_neq ?_ ?_ | refine wl_not ?_ ?_ | refine wl_shr ?_ ?_ ?_ | refine wl_and127 ?_ ?_ | refine wl_or128 ?_ ?_ ?_) | ((with_reducible refine wl_conv ?_ ?_ ?_ ?_); (· kernel_rfl); (· kernel_rfl)) | ((with_reducible refine wl_len ?_ ?_ ?_); rotate_left 1; (· simp [evb, kb, hN, sdb]); rotate_left 1; (· kernel_rfl)) | ((with_reducible refine wl_lenS ?_ ?_ ?_); rotate_left 1; (· simp [evb, kb, hN, sdb]); rotate_left 1; (· kernel_rfl))) <;> (first | (with_reducible refine wl_id ?_; try simp only [evb, kb, hN, Nat.reduceLT, Nat.reduceEqDiff, reduceIte, Int.reduceToNat, Int.reduceBEq]) | (simp [evb, kb, hN, sdb] <;> omega)))))
        refine wl_nil ?_; refine hK _ _ ?_; clear hK K
        refine wp_ret ⟨by simp [defers_put, hD], ?_⟩; simp only [evb, kb, hN, Nat.reduceLT, Nat.reduceEqDiff, reduceIte, Int.reduceToNat, Int.reduceBEq]
        refine ⟨?_, hcw.trans hc5 fun _ _ h => h⟩
        have : sUsualL sub v 0 = true := (sUsualL_iff sub v 0).2 fun j f hj => by rw [Nat.zero_add]; exact hall j f (List.getElem?_eq_some_iff.1 hj).1 hj
        unfold sUsual
        simp only [this, Bool.true_and]
        cases sUnknown sub v.t <;> simp
        omega
    all_goals
      (repeat (first | (with_reducible refine wp_seq_k (fun K hK => ?_)) | (with_reducible refine wp_block ?_) | ((with_reducible refine wp_reg ?_); (repeat (first | ((first | (with_reducible first | refine wl_move ?_ | refine wl_assign ?_ | refine wl_add ?_ ?_ | refine wl_sub ?_ ?_ | refine wl_lss ?_ ?_ | refine wl_leq ?_ ?_ | refine wl_gtr ?_ ?_ | refine wl_geq ?_ ?_ | refine wl_eql ?_ ?_ | refine wl_neq ?_ ?_ | refine wl_not ?_ ?_ | refine wl_shr ?_ ?_ ?_ | refine wl_and127 ?_ ?_ | refine wl_or128 ?_ ?_ ?_ | refine wl_min ?_ ?_ ?_ | refine wl_max ?_ ?_ ?_ | refine wl_mul ?_ ?_) | ((with_reducible refine wl_conv ?_ ?_ ?_ ?_); (· kernel_rfl); (· kernel_rfl)) | ((with_reducible refine wl_len ?_ ?_ ?_); rotate_left 1; (· simp [evb, kb, hN, kNum, bigb, sdb]); rotate_left 1; (· kernel_rfl)) | ((with_reducible refine wl_lenS ?_ ?_ ?_); rotate_left 1; (· simp [evb, kb, hN, kNum, bigb, sdb]); rotate_left 1; (· kernel_rfl)) | ((with_reducible refine wl_pickT ?_ ?_); (· simp [evb, kb, hN, kNum, bigb, sdb])) | ((with_reducible refine wl_pickF ?_ ?_); (· simp [evb, kb, hN, kNum, bigb, sdb]))) <;> (first | (with_reducible refine wl_id ?_; try simp only [evb, kb, hN, Nat.reduceLT, Nat.reduceEqDiff, reduceIte, Int.reduceToNat, Int.reduceBEq, kNum, bigb]) | (simp [evb, kb, hN, kNum, bigb, sdb] <;> omega))) | ((with_reducible apply wl_gyesB); (· exact rfl); (· exact rfl); (· simp [evb, kb, hN, kNum, bigb, sdb]); try simp only [evb, kb, hN, Nat.reduceLT, Nat.reduceEqDiff, reduceIte, Int.reduceToNat, Int.reduceBEq, kNum, bigb]) | ((with_reducible apply wl_gnoB); (· exact rfl); (· exact rfl); (· simp [evb, kb, hN, kNum, bigb, sdb]); try simp only [evb, kb, hN, Nat.reduceLT, Nat.reduceEqDiff, reduceIte, Int.reduceToNat, Int.reduceBEq, kNum, bigb]) | ((with_reducible apply wl_gnoU); (· exact rfl); (· exact rfl); (· simp [evb, kb, hN, kNum, bigb, sdb]); try simp only [evb, kb, hN, Nat.reduceLT, Nat.reduceEqDiff, reduceIte, Int.reduceToNat, Int.reduceBEq, kNum, bigb]))); (refine wl_nil ?_)) | ((with_reducible refine wp_cond_true ?_ ?_); (· simp [evb, kb, hN, kNum, sdb])) | ((with_reducible refine wp_cond_false ?_ ?_); (· simp [evb, kb, hN, kNum, sdb])) | (with_reducible refine wp_skip ?_) | (refine hK _ _ ?_; clear hK K)))
      refine hK0 _ _ ?_; try clear hK0 K0
      refine wp_seq_k fun K hK => ?_
      refine wp_sched (fun w' => Chg (fun _ => False) w2 w') [(true, 0), (true, 1), (true, 2), (true, 3), (true, 6), (true, 7), (true, 8), (true, 9), (false, 4), (false, 5), (false, 10), (false, 11), (false, 12), (true, 13)] follows_any (by kernel_rfl) (by kernel_rfl) (Chg.drew _ _) ?_
      refine ws_fieldAddr (b := w.heap.size + 1) (o := 0) (off := 0) (n := 1) (by kernel_rfl) rfl (by simp [evb, kb, hN, sdb]) ?_
      refine ws_load (b := w.heap.size + 1) (o := 0 + 0) (by kernel_rfl) rfl (by simp [evb, kb, hN, sdb]) (fun w' hw => hb2.chg hw (fun h => h)) t0 ?_
      refine ws_fieldAddr (b := w.heap.size) (o := 0) (off := 0) (n := 1) (by kernel_rfl) rfl (by simp [evb, kb, hN, sdb]) ?_
      refine ws_load (b := w.heap.size) (o := 0 + 0) (by kernel_rfl) rfl (by simp [evb, kb, hN, sdb]) (fun w' hw => hb.chg hw (fun h => h)) c0 ?_
      refine ws_fieldAddr (b := w.heap.size) (o := 0) (off := 5) (n := 1) (by kernel_rfl) rfl (by simp [evb, kb, hN, sdb]) ?_
      refine ws_load (b := w.heap.size) (o := 0 + 5) (by kernel_rfl) rfl (by simp [evb, kb, hN, sdb]) (fun w' hw => hb.chg hw (fun h => h)) c5 ?_
      refine ws_fieldAddr (b := w.heap.size) (o := 0) (off := 0) (n := 1) (by kernel_rfl) rfl (by simp [evb, kb, hN, sdb]) ?_
      refine ws_load (b := w.heap.size) (o := 0 + 0) (by kernel_rfl) rfl (by simp [evb, kb, hN, sdb]) (fun w' hw => hb.chg hw (fun h => h)) c0 ?_
      refine ws_call (fun args w => Tryd.call62 args w) rfl (by simp [evb, kb, hN, Nat.reduceLT, Nat.reduceEqDiff, reduceIte, Int.reduceToNat, Int.reduceBEq]; exact width_c _ (by decide)) ?_
      rintro _ w3 ⟨rfl, rfl⟩
      refine ⟨Chg.drew _ _, ?_⟩
      refine ws_call (fun args w => Tryd.call19 args w) rfl (by simp [evb, kb, hN, Nat.reduceLT, Nat.reduceEqDiff, reduceIte, Int.reduceToNat, Int.reduceBEq]; exact Fixed_c v.n _ (by decide)) ?_
      rintro v1 w3 ho1
      have hk1 : Chg (fun _ => False) w2 w3 := (Chg.drew _ _).trans ho1.2 fun _ _ h => h
      refine ⟨hk1, ?_⟩
      refine ws_call (fun args w => Tryd.call62 args w) rfl (by simp [evb, kb, hN, Nat.reduceLT, Nat.reduceEqDiff, reduceIte, Int.reduceToNat, Int.reduceBEq]; exact width_c _ (by decide)) ?_
      rintro _ w4 ⟨rfl, rfl⟩
      refine ⟨hk1, ?_⟩
      refine ws_call (fun args w => Tryd.call19 args w) rfl (by simp [evb, kb, hN, Nat.reduceLT, Nat.reduceEqDiff, reduceIte, Int.reduceToNat, Int.reduceBEq]; exact Fixed_c df _ (by decide)) ?_
      rintro v2 w4 ho2
      have hk2 : Chg (fun _ => False) w2 w4 := hk1.trans ho2.2 fun _ _ h => h
      refine ⟨hk2, ?_⟩
      obtain ⟨oa1, cap1, e1, _, hb1'⟩ := (ho1.later ho2.2).bytes
      obtain ⟨oa2, cap2, e2, _, hb2'⟩ := ho2.1.bytes
      refine ws_call (fun args w => Tryd.call10 args w) rfl (by simp [evb, kb, hN, Nat.reduceLT, Nat.reduceEqDiff, reduceIte, Int.reduceToNat, Int.reduceBEq]; rw [e1, e2]; exact Same_c _ _ hb1' hb2' (by simp [be_length, LIM, kWid])) ?_
      rintro _ w5 ⟨rfl, hc5⟩
      have hk3 : Chg (fun _ => False) w2 w5 := hk2.trans hc5 fun _ _ h => h
      refine ⟨hk3, ?_⟩
      refine ws_assign rfl ?_
      simp only [evb, kb, hN, Nat.reduceLT, Nat.reduceEqDiff, reduceIte, Int.reduceToNat, Int.reduceBEq]
      refine ws_nil ?_
      refine hK _ _ ?_
      clear hK K
      refine wp_ret ⟨by simp [defers_put, hD], ?_⟩; simp only [evb, kb, hN, Nat.reduceLT, Nat.reduceEqDiff, reduceIte, Int.reduceToNat, Int.reduceBEq]
      refine ⟨?_, hc.trans hk3 fun _ _ h => h⟩
      rw [usual_num _ _ _ _ _ _ _ _ _ (by decide)]
theorem usual_c (f : Fld) (v : Tr) (hfo : FOK f) (hvo : TROK v) {w : World} {G G' : Nat → Prop} {cs ts : List Value} (hfc : SchF w G f cs) (hv : TrC w G' v ts) :
    CallsR Tryd.prog 45 #[aggOf cs, aggOf ts] w fun r w' => r = .bool (sUsual f v) ∧ Chg (fun _ => False) w w' := usual_N _ f v (Nat.lt_succ_self _) hfo hvo hfc hv
end Go.Proofs.YtgjnllebnkjofaaDoor
namespace Go.Proofs.YtgjnllebnkjofaaDoor
set_option linter.all false
open Go.RowKit
set_option maxRecDepth 10000
set_option maxHeartbeats 600000
def SLIM : Nat := 2147483648
def PartC (fs : List Fld) : Prop := ∀ (ver : Int) (flex : Bool) (v : Tr), TROK v → (sPart flex ver fs v).length ≤ SLIM → ∀ {w : World} {G G' : Nat → Prop} {oa : Option Addr} {cap : Nat} {ts : List Value},
  SchS w G fs (.slice oa fs.length cap) → TrC w G' v ts → CallsR Tryd.prog 28 #[.slice oa fs.length cap, .int .i64 ver, .bool flex, aggOf ts] w fun r w' => Octs w r (sPart flex ver fs v) w'
theorem own16 {w : World} {base g : Nat} {l : Bs} (hl : l.length = 16) (hb : base ≤ g) (h : Blk w g (l.map byteV) eB) : Own eB w base (.slice (some ⟨g, 0, none⟩) 16 16) l :=
  ⟨by simp, .inr ⟨g, 16, (l.map byteV).toArray, by rw [hl], hb, h, by omega, by unfold maxLen; omega, by simp [hl], by rw [List.take_of_length_le (by simp)]⟩⟩
theorem run_make16 (w : World) : ∃ w', (Instr.makeSlice 22 (.int .i64 16) (.int .i64 16)).run Tryd.prog w = .ok (.slice (some ⟨w.heap.size, 0, none⟩) 16 16) w' ∧ Chg (fun _ => False) w w' ∧ Blk w' w.heap.size ((List.replicate 16 (0 : UInt8)).map byteV) eB := by
  obtain ⟨i, hi, h1, h2, h3⟩ := bT.hi
  obtain ⟨w', hr, ho, hg⟩ := run_makeSlice_full (P := Tryd.prog) w w.heap.size 22 eB i (.int .u8 0) 1 bT.ht hi h3 h1 .i64 .i64 16 (by omega) (by rw [h2]; omega) (by unfold maxLen; omega) (Nat.le_refl _)
  refine ⟨w', hr, (Chg.ofGrown hg).mono fun k _ hk => by simp at hk, ?_⟩
  rcases ho.2 with ⟨h, _⟩ | ⟨g, cap, cur, h, _, hgg, _, _, hcs, ht⟩
  · cases h
  · simp only [Value.slice.injEq, Option.some.injEq, Addr.mk.injEq] at h
    obtain ⟨⟨rfl, _, _⟩, _, rfl⟩ := h
    have e : cur.toList = (List.replicate 16 (0 : UInt8)).map byteV := by
      rw [List.take_of_length_le (by rw [Array.length_toList, hcs]; omega)] at ht
      rw [ht]; kernel_rfl
    unfold Blk
    rw [hgg, ← e]
theorem run_copy16 {w : World} {g : Nat} {G : Nat → Prop} {ob : Option Addr} {b : Bs} {cb : Nat} (ty : TypeId) (hb : Blk w g ((List.replicate 16 (0 : UInt8)).map byteV) eB) (hs : BytesAt w G ob b) :
    ∃ v w', (Builtin.copy_ #[22, 22] ty #[.slice (some ⟨g, 0, none⟩) 16 16, .slice ob b.length cb]).run Tryd.prog w = .ok v w' ∧ Chg (fun k => k = g) w w' ∧
      Blk w' g (((b ++ List.replicate 16 0).take 16).map byteV) eB := by
  obtain ⟨i, hi, h1, h2, h3⟩ := bT.hi
  have hsz : ((Tryd.prog).info? eB).map (·.size) = some 1 := by rw [hi]; simp [h1]
  cases ob with
  | none =>
    have : b = [] := by
      rcases hs with h | ⟨_, _, _, _, h, _⟩
      · exact h
      · cases h
    subst this
    exact ⟨_, w, run_copy_none w _ _ ty eB _ _ 16 16 0 cb bT.ht hsz (by simp), Chg.refl _ _, hb⟩
  | some ad =>
    have hlen : ((b.take 16).map byteV).length = Nat.min b.length 16 := by simp [Nat.min_comm]
    have hr := run_copy_row (P := Tryd.prog) w 22 22 ty eB g 0 16 16 ad b.length cb ((List.replicate 16 (0 : UInt8)).map byteV).toArray eB ((b.take 16).map byteV) bT.ht hsz hb hlen
      ((hs.take 16).cells) (by simp; omega) (byteV_one _)
    refine ⟨_, _, hr, Chg.setRow _ _ _ fun _ => rfl, ?_⟩
    have := hb.setRow ((List.take 0 ((List.replicate 16 (0 : UInt8)).map byteV).toArray.toList ++ (b.take 16).map byteV ++ List.drop (0 + ((b.take 16).map byteV).length) ((List.replicate 16 (0 : UInt8)).map byteV).toArray.toList).toArray)
    have e : (List.take 0 ((List.replicate 16 (0 : UInt8)).map byteV).toArray.toList ++ (b.take 16).map byteV ++ List.drop (0 + ((b.take 16).map byteV).length) ((List.replicate 16 (0 : UInt8)).map byteV).toArray.toList) = ((b ++ List.replicate 16 0).take 16).map byteV := by
      simp only [List.take_zero, List.nil_append, Nat.zero_add, List.length_map, List.length_take, ← List.map_drop, ← List.map_append, List.take_append, List.drop_replicate, List.take_replicate]
      congr 3
      omega
    rw [e] at this
    rw [e]
    exact this
theorem uvarAux_len : ∀ (k n : Nat), (uvarAux k n).length ≤ k + 1
  | 0, _ => by simp [uvarAux]
  | k + 1, n => by
    unfold uvarAux
    split
    · simp
    · have := uvarAux_len k (n / 128)
      simp; omega
theorem uvar_len (n : Nat) : (uvar n).length ≤ 5 := uvarAux_len 4 n
theorem sCount_len (flex nul : Bool) (n wd : Nat) (h : wd ≤ 8) : (sCount flex nul n wd).length ≤ 8 := by
  unfold sCount
  split
  · simp
  · split
    · exact Nat.le_trans (uvar_len _) (by omega)
    · split <;> simp [be_length, h]
theorem value_c (k : K) (sub : List Fld) (nul : Bool) (ver : Int) (flex : Bool) (v : Tr) (hk : k ≠ .list) (hp : k = .struct → PartC sub) (hvo : TROK v) (hlim : (sVal k sub flex nul ver v).length ≤ SLIM)
    {w : World} {G G' : Nat → Prop} {oa : Option Addr} {cap : Nat} {ts : List Value} (hsub : SchS w G sub (.slice oa sub.length cap)) (hv : TrC w G' v ts) :
    CallsR Tryd.prog 61 #[kV k, .slice oa sub.length cap, .bool nul, .int .i64 ver, .bool flex, aggOf ts] w fun r w' => Octs w r (sVal k sub flex nul ver v) w' := by
  obtain ⟨_, t0, hn, ⟨ob, cb, t1, hcb, hbb⟩, t2, ⟨x3, t3, hx3⟩, ⟨x4, t4, hx4⟩⟩ := hv.cells
  refine callsR_of Tryd.func61 rfl rfl Tryd.ntmps61 (by simp) ?_
  intro a hN hD ha
  have h0 : get a 0 = kV k := ha 0 _ rfl
  have h1 : get a 1 = .slice oa sub.length cap := ha 1 _ rfl
  have h2 : get a 2 = .bool nul := ha 2 _ rfl
  have h3 : get a 3 = .int .i64 ver := ha 3 _ rfl
  have h4 : get a 4 = .bool flex := ha 4 _ rfl
  have h5 : get a 5 = aggOf ts := ha 5 _ rfl
  unfold kV at h0
  refine wp_seq_k fun K hK => ?_; refine wp_reg ?_
  refine wl_boxA (l := ts) (by simp [evb, kb, hN, h5, sdb]) fun w1 hc hb hs => ?_
  (repeat (first | ((first | (with_reducible first | refine wl_move ?_ | refine wl_assign ?_ | refine wl_add ?_ ?_ | refine wl_sub ?_ ?_ | refine wl_lss ?_ ?_ | refine wl_leq ?_ ?_ | refine wl_gtr ?_ ?_ | refine wl_geq ?_ ?_ | refine wl_eql ?_ ?_ | refine wl_neq ?_ ?_ | refine wl_not ?_ ?_ | refine wl_shr ?_ ?_ ?_ | refine wl_and127 ?_ ?_ | refine wl_or128 ?_ ?_ ?_) | ((with_reducible refine wl_conv ?_ ?_ ?_ ?_); (· kernel_rfl); (· kernel_rfl)) | ((with_reducible refine wl_len ?_ ?_ ?_); rotate_left 1; (· simp [evb, kb, hN, sdb]); rotate_left 1; (· kernel_rfl)) | ((with_reducible refine wl_lenS ?_ ?_ ?_); rotate_left 1; (· simp [evb, kb, hN, sdb]); rotate_left 1; (· kernel_rfl))) <;> (first | (with_reducible refine wl_id ?_; try simp only [evb, kb, hN, Nat.reduceLT, Nat.reduceEqDiff, reduceIte, Int.reduceToNat, Int.reduceBEq]) | (simp [evb, kb, hN, sdb] <;> omega)))))
  refine wl_nil ?_; refine hK _ _ ?_; clear hK K
  refine wp_seq_k fun K0 hK0 => ?_
  cases k
  case list => exact absurd rfl hk
  case bool =>
    (repeat (first | (with_reducible refine wp_seq_k (fun K hK => ?_)) | (with_reducible refine wp_block ?_) | ((with_reducible refine wp_reg ?_); (repeat (first | ((first | (with_reducible first | refine wl_move ?_ | refine wl_assign ?_ | refine wl_add ?_ ?_ | refine wl_sub ?_ ?_ | refine wl_lss ?_ ?_ | refine wl_leq ?_ ?_ | refine wl_gtr ?_ ?_ | refine wl_geq ?_ ?_ | refine wl_eql ?_ ?_ | refine wl_neq ?_ ?_ | refine wl_not ?_ ?_ | refine wl_shr ?_ ?_ ?_ | refine wl_and127 ?_ ?_ | refine wl_or128 ?_ ?_ ?_ | refine wl_min ?_ ?_ ?_ | refine wl_max ?_ ?_ ?_ | refine wl_mul ?_ ?_) | ((with_reducible refine wl_conv ?_ ?_ ?_ ?_); (· kernel_rfl); (· kernel_rfl)) | ((with_reducible refine wl_len ?_ ?_ ?_); rotate_left 1; (· simp [evb, kb, hN, h0, kNum, bigb, sdb]); rotate_left 1; (· kernel_rfl)) | ((with_reducible refine wl_lenS ?_ ?_ ?_); rotate_left 1; (· simp [evb, kb, hN, h0, kNum, bigb, sdb]); rotate_left 1; (· kernel_rfl)) | ((with_reducible refine wl_pickT ?_ ?_); (· simp [evb, kb, hN, h0, kNum, bigb, sdb])) | ((with_reducible refine wl_pickF ?_ ?_); (· simp [evb, kb, hN, h0, kNum, bigb, sdb]))) <;> (first | (with_reducible refine wl_id ?_; try simp only [evb, kb, hN, Nat.reduceLT, Nat.reduceEqDiff, reduceIte, Int.reduceToNat, Int.reduceBEq, h0, kNum, bigb]) | (simp [evb, kb, hN, h0, kNum, bigb, sdb] <;> omega))) | ((with_reducible apply wl_gyesB); (· exact rfl); (· exact rfl); (· simp [evb, kb, hN, h0, kNum, bigb, sdb]); try simp only [evb, kb, hN, Nat.reduceLT, Nat.reduceEqDiff, reduceIte, Int.reduceToNat, Int.reduceBEq, h0, kNum, bigb]) | ((with_reducible apply wl_gnoB); (· exact rfl); (· exact rfl); (· simp [evb, kb, hN, h0, kNum, bigb, sdb]); try simp only [evb, kb, hN, Nat.reduceLT, Nat.reduceEqDiff, reduceIte, Int.reduceToNat, Int.reduceBEq, h0, kNum, bigb]) | ((with_reducible apply wl_gnoU); (· exact rfl); (· exact rfl); (· simp [evb, kb, hN, h0, kNum, bigb, sdb]); try simp only [evb, kb, hN, Nat.reduceLT, Nat.reduceEqDiff, reduceIte, Int.reduceToNat, Int.reduceBEq, h0, kNum, bigb]))); (refine wl_nil ?_)) | ((with_reducible refine wp_cond_true ?_ ?_); (· simp [evb, kb, hN, h0, kNum, sdb])) | ((with_reducible refine wp_cond_false ?_ ?_); (· simp [evb, kb, hN, h0, kNum, sdb])) | (with_reducible refine wp_skip ?_) | (refine hK _ _ ?_; clear hK K)))
    refine wp_reg ?_
    with_reducible refine wl_fieldAt (b := w.heap.size) (off := 0) (n := 1) ?_ ?_ ?_; (· kernel_rfl); (· simp [evb, kb, hN, sdb])
    with_reducible refine wl_load (b := w.heap.size) (o := 0) ?_ ?_ hb t0 ?_; (· kernel_rfl); (· simp [evb, kb, hN, sdb])
    with_reducible refine wl_and1 ?_ ?_
    · simp [evb, kb, hN, sdb]
    simp only [evb, kb, hN, Nat.reduceLT, Nat.reduceEqDiff, reduceIte, Int.reduceToNat, Int.reduceBEq, and1]
    (repeat (first | ((first | (with_reducible first | refine wl_move ?_ | refine wl_assign ?_ | refine wl_add ?_ ?_ | refine wl_sub ?_ ?_ | refine wl_lss ?_ ?_ | refine wl_leq ?_ ?_ | refine wl_gtr ?_ ?_ | refine wl_geq ?_ ?_ | refine wl_eql ?_ ?_ | refine wl_neq ?_ ?_ | refine wl_not ?_ ?_ | refine wl_shr ?_ ?_ ?_ | refine wl_and127 ?_ ?_ | refine wl_or128 ?_ ?_ ?_) | ((with_reducible refine wl_conv ?_ ?_ ?_ ?_); (· kernel_rfl); (· kernel_rfl)) | ((with_reducible refine wl_len ?_ ?_ ?_); rotate_left 1; (· simp [evb, kb, hN, sdb]); rotate_left 1; (· kernel_rfl)) | ((with_reducible refine wl_lenS ?_ ?_ ?_); rotate_left 1; (· simp [evb, kb, hN, sdb]); rotate_left 1; (· kernel_rfl))) <;> (first | (with_reducible refine wl_id ?_; try simp only [evb, kb, hN, Nat.reduceLT, Nat.reduceEqDiff, reduceIte, Int.reduceToNat, Int.reduceBEq]) | (simp [evb, kb, hN, sdb] <;> omega)))))
    rw [bv]
    refine wl_lit [byte (v.n % 2)] (by simp [evb, kb, hN, sdb]) rfl (by simp) ?_
    intro r w2 hown hc2
    refine wl_assign ?_
    simp only [evb, kb, hN, Nat.reduceLT, Nat.reduceEqDiff, reduceIte, Int.reduceToNat, Int.reduceBEq]
    refine wl_nil ?_; refine hK _ _ ?_; clear hK K
    refine wp_ret ⟨by simp [defers_put, hD], ?_⟩; simp only [evb, kb, hN, Nat.reduceLT, Nat.reduceEqDiff, reduceIte, Int.reduceToNat, Int.reduceBEq]
    exact ⟨hown.mono hc.size, hc.trans hc2 fun _ _ h => h⟩
  case uuid =>
    (repeat (first | (with_reducible refine wp_seq_k (fun K hK => ?_)) | (with_reducible refine wp_block ?_) | ((with_reducible refine wp_reg ?_); (repeat (first | ((first | (with_reducible first | refine wl_move ?_ | refine wl_assign ?_ | refine wl_add ?_ ?_ | refine wl_sub ?_ ?_ | refine wl_lss ?_ ?_ | refine wl_leq ?_ ?_ | refine wl_gtr ?_ ?_ | refine wl_geq ?_ ?_ | refine wl_eql ?_ ?_ | refine wl_neq ?_ ?_ | refine wl_not ?_ ?_ | refine wl_shr ?_ ?_ ?_ | refine wl_and127 ?_ ?_ | refine wl_or128 ?_ ?_ ?_ | refine wl_min ?_ ?_ ?_ | refine wl_max ?_ ?_ ?_ | refine wl_mul ?_ ?_) | ((with_reducible refine wl_conv ?_ ?_ ?_ ?_); (· kernel_rfl); (· kernel_rfl)) | ((with_reducible refine wl_len ?_ ?_ ?_); rotate_left 1; (· simp [evb, kb, hN, h0, kNum, bigb, sdb]); rotate_left 1; (· kernel_rfl)) | ((with_reducible refine wl_lenS ?_ ?_ ?_); rotate_left 1; (· simp [evb, kb, hN, h0, kNum, bigb, sdb]); rotate_left 1; (· kernel_rfl)) | ((with_reducible refine wl_pickT ?_ ?_); (· simp [evb, kb, hN, h0, kNum, bigb, sdb])) | ((with_reducible refine wl_pickF ?_ ?_); (· simp [evb, kb, hN, h0, kNum, bigb, sdb]))) <;> (first | (with_reducible refine wl_id ?_; try simp only [evb, kb, hN, Nat.reduceLT, Nat.reduceEqDiff, reduceIte, Int.reduceToNat, Int.reduceBEq, h0, kNum, bigb]) | (simp [evb, kb, hN, h0, kNum, bigb, sdb] <;> omega))) | ((with_reducible apply wl_gyesB); (· exact rfl); (· exact rfl); (· simp [evb, kb, hN, h0, kNum, bigb, sdb]); try simp only [evb, kb, hN, Nat.reduceLT, Nat.reduceEqDiff, reduceIte, Int.reduceToNat, Int.reduceBEq, h0, kNum, bigb]) | ((with_reducible apply wl_gnoB); (· exact rfl); (· exact rfl); (· simp [evb, kb, hN, h0, kNum, bigb, sdb]); try simp only [evb, kb, hN, Nat.reduceLT, Nat.reduceEqDiff, reduceIte, Int.reduceToNat, Int.reduceBEq, h0, kNum, bigb]) | ((with_reducible apply wl_gnoU); (· exact rfl); (· exact rfl); (· simp [evb, kb, hN, h0, kNum, bigb, sdb]); try simp only [evb, kb, hN, Nat.reduceLT, Nat.reduceEqDiff, reduceIte, Int.reduceToNat, Int.reduceBEq, h0, kNum, bigb]))); (refine wl_nil ?_)) | ((with_reducible refine wp_cond_true ?_ ?_); (· simp [evb, kb, hN, h0, kNum, sdb])) | ((with_reducible refine wp_cond_false ?_ ?_); (· simp [evb, kb, hN, h0, kNum, sdb])) | (with_reducible refine wp_skip ?_) | (refine hK _ _ ?_; clear hK K)))
    refine wp_reg ?_
    obtain ⟨w2, hr, hc2, hb2⟩ := run_make16 w1
    refine wl_val rfl (v := .slice (some ⟨w1.heap.size, 0, none⟩) 16 16) (w' := w2) (by simp only [execOp, Sem.run_bind, eval_const, hr]; rfl) ?_
    refine wl_assign ?_
    simp only [evb, kb, hN, Nat.reduceLT, Nat.reduceEqDiff, reduceIte, Int.reduceToNat, Int.reduceBEq]
    refine wl_nil ?_; refine hK _ _ ?_; clear hK K
    have hbt := hbb.stay (Stay.none (hc.trans hc2 fun _ _ h => h))
    obtain ⟨vv, w3, hr3, hc3, hb3⟩ := run_copy16 (cb := cb) 3 hb2 hbt
    have hbx := hb.chg hc2 fun h => h
    refine wp_seq_k fun K hK => ?_; refine wp_reg ?_
    (repeat (first | ((first | (with_reducible first | refine wl_move ?_ | refine wl_assign ?_ | refine wl_add ?_ ?_ | refine wl_sub ?_ ?_ | refine wl_lss ?_ ?_ | refine wl_leq ?_ ?_ | refine wl_gtr ?_ ?_ | refine wl_geq ?_ ?_ | refine wl_eql ?_ ?_ | refine wl_neq ?_ ?_ | refine wl_not ?_ ?_ | refine wl_shr ?_ ?_ ?_ | refine wl_and127 ?_ ?_ | refine wl_or128 ?_ ?_ ?_) | ((with_reducible refine wl_conv ?_ ?_ ?_ ?_); (· kernel_rfl); (· kernel_rfl)) | ((with_reducible refine wl_len ?_ ?_ ?_); rotate_left 1; (· simp [evb, kb, hN, sdb]); rotate_left 1; (· kernel_rfl)) | ((with_reducible refine wl_lenS ?_ ?_ ?_); rotate_left 1; (· simp [evb, kb, hN, sdb]); rotate_left 1; (· kernel_rfl))) <;> (first | (with_reducible refine wl_id ?_; try simp only [evb, kb, hN, Nat.reduceLT, Nat.reduceEqDiff, reduceIte, Int.reduceToNat, Int.reduceBEq]) | (simp [evb, kb, hN, sdb] <;> omega)))))
    with_reducible refine wl_fieldAt (b := w.heap.size) (off := 1) (n := 1) ?_ ?_ ?_; (· kernel_rfl); (· simp [evb, kb, hN, sdb])
    with_reducible refine wl_load (b := w.heap.size) (o := 1) ?_ ?_ hbx t1 ?_; (· kernel_rfl); (· simp [evb, kb, hN, sdb])
    refine wl_val rfl (v := vv) (w' := w3) (by simp [execOp, resolve, invoke, builtin, evb, kb, hN, Nat.reduceLT, Nat.reduceEqDiff, reduceIte, Int.reduceToNat, Int.reduceBEq, hr3]) ?_
    refine wl_nil ?_; refine hK _ _ ?_; clear hK K
    refine wp_seq_k fun K hK => ?_; refine wp_reg ?_
    (repeat (first | ((first | (with_reducible first | refine wl_move ?_ | refine wl_assign ?_ | refine wl_add ?_ ?_ | refine wl_sub ?_ ?_ | refine wl_lss ?_ ?_ | refine wl_leq ?_ ?_ | refine wl_gtr ?_ ?_ | refine wl_geq ?_ ?_ | refine wl_eql ?_ ?_ | refine wl_neq ?_ ?_ | refine wl_not ?_ ?_ | refine wl_shr ?_ ?_ ?_ | refine wl_and127 ?_ ?_ | refine wl_or128 ?_ ?_ ?_) | ((with_reducible refine wl_conv ?_ ?_ ?_ ?_); (· kernel_rfl); (· kernel_rfl)) | ((with_reducible refine wl_len ?_ ?_ ?_); rotate_left 1; (· simp [evb, kb, hN, sdb]); rotate_left 1; (· kernel_rfl)) | ((with_reducible refine wl_lenS ?_ ?_ ?_); rotate_left 1; (· simp [evb, kb, hN, sdb]); rotate_left 1; (· kernel_rfl))) <;> (first | (with_reducible refine wl_id ?_; try simp only [evb, kb, hN, Nat.reduceLT, Nat.reduceEqDiff, reduceIte, Int.reduceToNat, Int.reduceBEq]) | (simp [evb, kb, hN, sdb] <;> omega)))))
    refine wl_nil ?_; refine hK _ _ ?_; clear hK K
    refine wp_ret ⟨by simp [defers_put, hD], ?_⟩; simp only [evb, kb, hN, Nat.reduceLT, Nat.reduceEqDiff, reduceIte, Int.reduceToNat, Int.reduceBEq]
    have hl16 : ((v.b ++ List.replicate 16 0).take 16).length = 16 := by simp
    refine ⟨own16 hl16 hc.size hb3, (hc.trans hc2 fun _ _ h => h).trans hc3 fun n hn h => by have := hc.size; omega⟩
  case text =>
    have hl : sVal .text sub flex nul ver v = sCount flex nul (if nul then [] else v.b.take MOST).length 2 ++ (if nul then [] else v.b.take MOST) := rfl
    rw [hl] at hlim ⊢
    rw [List.length_append] at hlim
    unfold SLIM at hlim
    (repeat (first | (with_reducible refine wp_seq_k (fun K hK => ?_)) | (with_reducible refine wp_block ?_) | ((with_reducible refine wp_reg ?_); (repeat (first | ((first | (with_reducible first | refine wl_move ?_ | refine wl_assign ?_ | refine wl_add ?_ ?_ | refine wl_sub ?_ ?_ | refine wl_lss ?_ ?_ | refine wl_leq ?_ ?_ | refine wl_gtr ?_ ?_ | refine wl_geq ?_ ?_ | refine wl_eql ?_ ?_ | refine wl_neq ?_ ?_ | refine wl_not ?_ ?_ | refine wl_shr ?_ ?_ ?_ | refine wl_and127 ?_ ?_ | refine wl_or128 ?_ ?_ ?_ | refine wl_min ?_ ?_ ?_ | refine wl_max ?_ ?_ ?_ | refine wl_mul ?_ ?_) | ((with_reducible refine wl_conv ?_ ?_ ?_ ?_); (· kernel_rfl); (· kernel_rfl)) | ((with_reducible refine wl_len ?_ ?_ ?_); rotate_left 1; (· simp [evb, kb, hN, h0, kNum, bigb, sdb]); rotate_left 1; (· kernel_rfl)) | ((with_reducible refine wl_lenS ?_ ?_ ?_); rotate_left 1; (· simp [evb, kb, hN, h0, kNum, bigb, sdb]); rotate_left 1; (· kernel_rfl)) | ((with_reducible refine wl_pickT ?_ ?_); (· simp [evb, kb, hN, h0, kNum, bigb, sdb])) | ((with_reducible refine wl_pickF ?_ ?_); (· simp [evb, kb, hN, h0, kNum, bigb, sdb]))) <;> (first | (with_reducible refine wl_id ?_; try simp only [evb, kb, hN, Nat.reduceLT, Nat.reduceEqDiff, reduceIte, Int.reduceToNat, Int.reduceBEq, h0, kNum, bigb]) | (simp [evb, kb, hN, h0, kNum, bigb, sdb] <;> omega))) | ((with_reducible apply wl_gyesB); (· exact rfl); (· exact rfl); (· simp [evb, kb, hN, h0, kNum, bigb, sdb]); try simp only [evb, kb, hN, Nat.reduceLT, Nat.reduceEqDiff, reduceIte, Int.reduceToNat, Int.reduceBEq, h0, kNum, bigb]) | ((with_reducible apply wl_gnoB); (· exact rfl); (· exact rfl); (· simp [evb, kb, hN, h0, kNum, bigb, sdb]); try simp only [evb, kb, hN, Nat.reduceLT, Nat.reduceEqDiff, reduceIte, Int.reduceToNat, Int.reduceBEq, h0, kNum, bigb]) | ((with_reducible apply wl_gnoU); (· exact rfl); (· exact rfl); (· simp [evb, kb, hN, h0, kNum, bigb, sdb]); try simp only [evb, kb, hN, Nat.reduceLT, Nat.reduceEqDiff, reduceIte, Int.reduceToNat, Int.reduceBEq, h0, kNum, bigb]))); (refine wl_nil ?_)) | ((with_reducible refine wp_cond_true ?_ ?_); (· simp [evb, kb, hN, h0, kNum, sdb])) | ((with_reducible refine wp_cond_false ?_ ?_); (· simp [evb, kb, hN, h0, kNum, sdb])) | (with_reducible refine wp_skip ?_) | (refine hK _ _ ?_; clear hK K)))
    refine wp_reg ?_
    with_reducible refine wl_fieldAt (b := w.heap.size) (off := 1) (n := 1) ?_ ?_ ?_; (· kernel_rfl); (· simp [evb, kb, hN, sdb])
    with_reducible refine wl_load (b := w.heap.size) (o := 1) ?_ ?_ hb t1 ?_; (· kernel_rfl); (· simp [evb, kb, hN, sdb])
    refine wl_call (fun args w => Tryd.call48 args w) (by simp [evb, kb, hN, Nat.reduceLT, Nat.reduceEqDiff, reduceIte, Int.reduceToNat, Int.reduceBEq]; exact whole_c v.b hcb) ?_
    rintro _ _ ⟨rfl, rfl⟩
    (repeat (first | ((first | (with_reducible first | refine wl_move ?_ | refine wl_assign ?_ | refine wl_add ?_ ?_ | refine wl_sub ?_ ?_ | refine wl_lss ?_ ?_ | refine wl_leq ?_ ?_ | refine wl_gtr ?_ ?_ | refine wl_geq ?_ ?_ | refine wl_eql ?_ ?_ | refine wl_neq ?_ ?_ | refine wl_not ?_ ?_ | refine wl_shr ?_ ?_ ?_ | refine wl_and127 ?_ ?_ | refine wl_or128 ?_ ?_ ?_) | ((with_reducible refine wl_conv ?_ ?_ ?_ ?_); (· kernel_rfl); (· kernel_rfl)) | ((with_reducible refine wl_len ?_ ?_ ?_); rotate_left 1; (· simp [evb, kb, hN, sdb]); rotate_left 1; (· kernel_rfl)) | ((with_reducible refine wl_lenS ?_ ?_ ?_); rotate_left 1; (· simp [evb, kb, hN, sdb]); rotate_left 1; (· kernel_rfl))) <;> (first | (with_reducible refine wl_id ?_; try simp only [evb, kb, hN, Nat.reduceLT, Nat.reduceEqDiff, reduceIte, Int.reduceToNat, Int.reduceBEq]) | (simp [evb, kb, hN, sdb] <;> omega)))))
    refine wl_nil ?_; refine hK _ _ ?_; clear hK K
    have hbt := (hbb.take MOST).stay (Stay.none hc)
    generalize v.b.take MOST = tb at hbt hlim ⊢
    cases nul with
    | true =>
      (repeat (first | (with_reducible refine wp_seq_k (fun K hK => ?_)) | (with_reducible refine wp_block ?_) | ((with_reducible refine wp_reg ?_); (repeat (first | ((first | (with_reducible first | refine wl_move ?_ | refine wl_assign ?_ | refine wl_add ?_ ?_ | refine wl_sub ?_ ?_ | refine wl_lss ?_ ?_ | refine wl_leq ?_ ?_ | refine wl_gtr ?_ ?_ | refine wl_geq ?_ ?_ | refine wl_eql ?_ ?_ | refine wl_neq ?_ ?_ | refine wl_not ?_ ?_ | refine wl_shr ?_ ?_ ?_ | refine wl_and127 ?_ ?_ | refine wl_or128 ?_ ?_ ?_ | refine wl_min ?_ ?_ ?_ | refine wl_max ?_ ?_ ?_ | refine wl_mul ?_ ?_) | ((with_reducible refine wl_conv ?_ ?_ ?_ ?_); (· kernel_rfl); (· kernel_rfl)) | ((with_reducible refine wl_len ?_ ?_ ?_); rotate_left 1; (· simp [evb, kb, hN, h2, bigb, sdb]); rotate_left 1; (· kernel_rfl)) | ((with_reducible refine wl_lenS ?_ ?_ ?_); rotate_left 1; (· simp [evb, kb, hN, h2, bigb, sdb]); rotate_left 1; (· kernel_rfl)) | ((with_reducible refine wl_pickT ?_ ?_); (· simp [evb, kb, hN, h2, bigb, sdb])) | ((with_reducible refine wl_pickF ?_ ?_); (· simp [evb, kb, hN, h2, bigb, sdb]))) <;> (first | (with_reducible refine wl_id ?_; try simp only [evb, kb, hN, Nat.reduceLT, Nat.reduceEqDiff, reduceIte, Int.reduceToNat, Int.reduceBEq, h2, bigb]) | (simp [evb, kb, hN, h2, bigb, sdb] <;> omega))) | ((with_reducible apply wl_gyesB); (· exact rfl); (· exact rfl); (· simp [evb, kb, hN, h2, bigb, sdb]); try simp only [evb, kb, hN, Nat.reduceLT, Nat.reduceEqDiff, reduceIte, Int.reduceToNat, Int.reduceBEq, h2, bigb]) | ((with_reducible apply wl_gnoB); (· exact rfl); (· exact rfl); (· simp [evb, kb, hN, h2, bigb, sdb]); try simp only [evb, kb, hN, Nat.reduceLT, Nat.reduceEqDiff, reduceIte, Int.reduceToNat, Int.reduceBEq, h2, bigb]) | ((with_reducible apply wl_gnoU); (· exact rfl); (· exact rfl); (· simp [evb, kb, hN, h2, bigb, sdb]); try simp only [evb, kb, hN, Nat.reduceLT, Nat.reduceEqDiff, reduceIte, Int.reduceToNat, Int.reduceBEq, h2, bigb]))); (refine wl_nil ?_)) | ((with_reducible refine wp_cond_true ?_ ?_); (· simp [evb, kb, hN, h2, sdb])) | ((with_reducible refine wp_cond_false ?_ ?_); (· simp [evb, kb, hN, h2, sdb])) | (with_reducible refine wp_skip ?_) | (refine hK _ _ ?_; clear hK K)))
      refine wp_reg ?_
      (repeat (first | ((first | (with_reducible first | refine wl_move ?_ | refine wl_assign ?_ | refine wl_add ?_ ?_ | refine wl_sub ?_ ?_ | refine wl_lss ?_ ?_ | refine wl_leq ?_ ?_ | refine wl_gtr ?_ ?_ | refine wl_geq ?_ ?_ | refine wl_eql ?_ ?_ | refine wl_neq ?_ ?_ | refine wl_not ?_ ?_ | refine wl_shr ?_ ?_ ?_ | refine wl_and127 ?_ ?_ | refine wl_or128 ?_ ?_ ?_) | ((with_reducible refine wl_conv ?_ ?_ ?_ ?_); (· kernel_rfl); (· kernel_rfl)) | ((with_reducible refine wl_len ?_ ?_ ?_); rotate_left 1; (· simp [evb, kb, hN, h2, h4, sdb]); rotate_left 1; (· kernel_rfl)) | ((with_reducible refine wl_lenS ?_ ?_ ?_); rotate_left 1; (· simp [evb, kb, hN, h2, h4, sdb]); rotate_left 1; (· kernel_rfl))) <;> (first | (with_reducible refine wl_id ?_; try simp only [evb, kb, hN, Nat.reduceLT, Nat.reduceEqDiff, reduceIte, Int.reduceToNat, Int.reduceBEq, h2, h4]) | (simp [evb, kb, hN, h2, h4, sdb] <;> omega)))))
      simp only [if_true, List.length_nil] at hlim ⊢
      refine wl_call (fun args w => Tryd.call60 args w) (by simp [evb, kb, hN, Nat.reduceLT, Nat.reduceEqDiff, reduceIte, Int.reduceToNat, Int.reduceBEq]; exact counted_c flex true 0 2 (by omega) (by omega)) ?_
      rintro r w2 ho
      (repeat (first | ((first | (with_reducible first | refine wl_move ?_ | refine wl_assign ?_ | refine wl_add ?_ ?_ | refine wl_sub ?_ ?_ | refine wl_lss ?_ ?_ | refine wl_leq ?_ ?_ | refine wl_gtr ?_ ?_ | refine wl_geq ?_ ?_ | refine wl_eql ?_ ?_ | refine wl_neq ?_ ?_ | refine wl_not ?_ ?_ | refine wl_shr ?_ ?_ ?_ | refine wl_and127 ?_ ?_ | refine wl_or128 ?_ ?_ ?_) | ((with_reducible refine wl_conv ?_ ?_ ?_ ?_); (· kernel_rfl); (· kernel_rfl)) | ((with_reducible refine wl_len ?_ ?_ ?_); rotate_left 1; (· simp [evb, kb, hN, sdb]); rotate_left 1; (· kernel_rfl)) | ((with_reducible refine wl_lenS ?_ ?_ ?_); rotate_left 1; (· simp [evb, kb, hN, sdb]); rotate_left 1; (· kernel_rfl))) <;> (first | (with_reducible refine wl_id ?_; try simp only [evb, kb, hN, Nat.reduceLT, Nat.reduceEqDiff, reduceIte, Int.reduceToNat, Int.reduceBEq]) | (simp [evb, kb, hN, sdb] <;> omega)))))
      refine wl_append bT (bs' := []) (oa := none) (c := 0) (G := fun _ => True) (by simp only [evb, kb, hN, Nat.reduceLT, Nat.reduceEqDiff, reduceIte, Int.reduceToNat, Int.reduceBEq]) (by simp only [evb, kb, hN, Nat.reduceLT, Nat.reduceEqDiff, reduceIte, Int.reduceToNat, Int.reduceBEq]; rfl) ho.1 (.inl rfl) (by unfold LIM; first | omega | (simp only [List.length_nil]; omega)) ho.2.size ?_
      intro r2 w3 happ
      refine wl_assign ?_
      simp only [evb, kb, hN, Nat.reduceLT, Nat.reduceEqDiff, reduceIte, Int.reduceToNat, Int.reduceBEq]
      refine wl_nil ?_; refine hK _ _ ?_; clear hK K
      refine wp_ret ⟨by simp [defers_put, hD], ?_⟩; simp only [evb, kb, hN, Nat.reduceLT, Nat.reduceEqDiff, reduceIte, Int.reduceToNat, Int.reduceBEq]
      exact ⟨happ.own.mono hc.size, hc.trans (ho.2.trans (happ.chgFrom ho.1) fun _ hx h => by omega) fun n hx h => by omega⟩
    | false =>
      (repeat (first | (with_reducible refine wp_seq_k (fun K hK => ?_)) | (with_reducible refine wp_block ?_) | ((with_reducible refine wp_reg ?_); (repeat (first | ((first | (with_reducible first | refine wl_move ?_ | refine wl_assign ?_ | refine wl_add ?_ ?_ | refine wl_sub ?_ ?_ | refine wl_lss ?_ ?_ | refine wl_leq ?_ ?_ | refine wl_gtr ?_ ?_ | refine wl_geq ?_ ?_ | refine wl_eql ?_ ?_ | refine wl_neq ?_ ?_ | refine wl_not ?_ ?_ | refine wl_shr ?_ ?_ ?_ | refine wl_and127 ?_ ?_ | refine wl_or128 ?_ ?_ ?_ | refine wl_min ?_ ?_ ?_ | refine wl_max ?_ ?_ ?_ | refine wl_mul ?_ ?_) | ((with_reducible refine wl_conv ?_ ?_ ?_ ?_); (· kernel_rfl); (· kernel_rfl)) | ((with_reducible refine wl_len ?_ ?_ ?_); rotate_left 1; (· simp [evb, kb, hN, h2, bigb, sdb]); rotate_left 1; (· kernel_rfl)) | ((with_reducible refine wl_lenS ?_ ?_ ?_); rotate_left 1; (· simp [evb, kb, hN, h2, bigb, sdb]); rotate_left 1; (· kernel_rfl)) | ((with_reducible refine wl_pickT ?_ ?_); (· simp [evb, kb, hN, h2, bigb, sdb])) | ((with_reducible refine wl_pickF ?_ ?_); (· simp [evb, kb, hN, h2, bigb, sdb]))) <;> (first | (with_reducible refine wl_id ?_; try simp only [evb, kb, hN, Nat.reduceLT, Nat.reduceEqDiff, reduceIte, Int.reduceToNat, Int.reduceBEq, h2, bigb]) | (simp [evb, kb, hN, h2, bigb, sdb] <;> omega))) | ((with_reducible apply wl_gyesB); (· exact rfl); (· exact rfl); (· simp [evb, kb, hN, h2, bigb, sdb]); try simp only [evb, kb, hN, Nat.reduceLT, Nat.reduceEqDiff, reduceIte, Int.reduceToNat, Int.reduceBEq, h2, bigb]) | ((with_reducible apply wl_gnoB); (· exact rfl); (· exact rfl); (· simp [evb, kb, hN, h2, bigb, sdb]); try simp only [evb, kb, hN, Nat.reduceLT, Nat.reduceEqDiff, reduceIte, Int.reduceToNat, Int.reduceBEq, h2, bigb]) | ((with_reducible apply wl_gnoU); (· exact rfl); (· exact rfl); (· simp [evb, kb, hN, h2, bigb, sdb]); try simp only [evb, kb, hN, Nat.reduceLT, Nat.reduceEqDiff, reduceIte, Int.reduceToNat, Int.reduceBEq, h2, bigb]))); (refine wl_nil ?_)) | ((with_reducible refine wp_cond_true ?_ ?_); (· simp [evb, kb, hN, h2, sdb])) | ((with_reducible refine wp_cond_false ?_ ?_); (· simp [evb, kb, hN, h2, sdb])) | (with_reducible refine wp_skip ?_) | (refine hK _ _ ?_; clear hK K)))
      refine wp_reg ?_
      (repeat (first | ((first | (with_reducible first | refine wl_move ?_ | refine wl_assign ?_ | refine wl_add ?_ ?_ | refine wl_sub ?_ ?_ | refine wl_lss ?_ ?_ | refine wl_leq ?_ ?_ | refine wl_gtr ?_ ?_ | refine wl_geq ?_ ?_ | refine wl_eql ?_ ?_ | refine wl_neq ?_ ?_ | refine wl_not ?_ ?_ | refine wl_shr ?_ ?_ ?_ | refine wl_and127 ?_ ?_ | refine wl_or128 ?_ ?_ ?_) | ((with_reducible refine wl_conv ?_ ?_ ?_ ?_); (· kernel_rfl); (· kernel_rfl)) | ((with_reducible refine wl_len ?_ ?_ ?_); rotate_left 1; (· simp [evb, kb, hN, h2, h4, sdb]); rotate_left 1; (· kernel_rfl)) | ((with_reducible refine wl_lenS ?_ ?_ ?_); rotate_left 1; (· simp [evb, kb, hN, h2, h4, sdb]); rotate_left 1; (· kernel_rfl))) <;> (first | (with_reducible refine wl_id ?_; try simp only [evb, kb, hN, Nat.reduceLT, Nat.reduceEqDiff, reduceIte, Int.reduceToNat, Int.reduceBEq, h2, h4]) | (simp [evb, kb, hN, h2, h4, sdb] <;> omega)))))
      simp only [Bool.false_eq_true, if_false] at hlim ⊢
      refine wl_call (fun args w => Tryd.call60 args w) (by simp [evb, kb, hN, Nat.reduceLT, Nat.reduceEqDiff, reduceIte, Int.reduceToNat, Int.reduceBEq]; exact counted_c flex false tb.length 2 (by omega) (by omega)) ?_
      rintro r w2 ho
      (repeat (first | ((first | (with_reducible first | refine wl_move ?_ | refine wl_assign ?_ | refine wl_add ?_ ?_ | refine wl_sub ?_ ?_ | refine wl_lss ?_ ?_ | refine wl_leq ?_ ?_ | refine wl_gtr ?_ ?_ | refine wl_geq ?_ ?_ | refine wl_eql ?_ ?_ | refine wl_neq ?_ ?_ | refine wl_not ?_ ?_ | refine wl_shr ?_ ?_ ?_ | refine wl_and127 ?_ ?_ | refine wl_or128 ?_ ?_ ?_) | ((with_reducible refine wl_conv ?_ ?_ ?_ ?_); (· kernel_rfl); (· kernel_rfl)) | ((with_reducible refine wl_len ?_ ?_ ?_); rotate_left 1; (· simp [evb, kb, hN, sdb]); rotate_left 1; (· kernel_rfl)) | ((with_reducible refine wl_lenS ?_ ?_ ?_); rotate_left 1; (· simp [evb, kb, hN, sdb]); rotate_left 1; (· kernel_rfl))) <;> (first | (with_reducible refine wl_id ?_; try simp only [evb, kb, hN, Nat.reduceLT, Nat.reduceEqDiff, reduceIte, Int.reduceToNat, Int.reduceBEq]) | (simp [evb, kb, hN, sdb] <;> omega)))))
      refine wl_append bT (bs' := tb) (oa := ob) (c := cb) (G := G') (by simp only [evb, kb, hN, Nat.reduceLT, Nat.reduceEqDiff, reduceIte, Int.reduceToNat, Int.reduceBEq]) (by simp only [evb, kb, hN, Nat.reduceLT, Nat.reduceEqDiff, reduceIte, Int.reduceToNat, Int.reduceBEq]) ho.1 (hbt.stay (Stay.none ho.2)) (by unfold LIM; first | omega | (simp only [List.length_nil]; omega)) ho.2.size ?_
      intro r2 w3 happ
      refine wl_assign ?_
      simp only [evb, kb, hN, Nat.reduceLT, Nat.reduceEqDiff, reduceIte, Int.reduceToNat, Int.reduceBEq]
      refine wl_nil ?_; refine hK _ _ ?_; clear hK K
      refine wp_ret ⟨by simp [defers_put, hD], ?_⟩; simp only [evb, kb, hN, Nat.reduceLT, Nat.reduceEqDiff, reduceIte, Int.reduceToNat, Int.reduceBEq]
      exact ⟨happ.own.mono hc.size, hc.trans (ho.2.trans (happ.chgFrom ho.1) fun _ hx h => by omega) fun n hx h => by omega⟩
  case bytes =>
    have hl : sVal .bytes sub flex nul ver v = sCount flex nul (if nul then [] else v.b.take MOST).length 4 ++ (if nul then [] else v.b.take MOST) := rfl
    rw [hl] at hlim ⊢
    rw [List.length_append] at hlim
    unfold SLIM at hlim
    (repeat (first | (with_reducible refine wp_seq_k (fun K hK => ?_)) | (with_reducible refine wp_block ?_) | ((with_reducible refine wp_reg ?_); (repeat (first | ((first | (with_reducible first | refine wl_move ?_ | refine wl_assign ?_ | refine wl_add ?_ ?_ | refine wl_sub ?_ ?_ | refine wl_lss ?_ ?_ | refine wl_leq ?_ ?_ | refine wl_gtr ?_ ?_ | refine wl_geq ?_ ?_ | refine wl_eql ?_ ?_ | refine wl_neq ?_ ?_ | refine wl_not ?_ ?_ | refine wl_shr ?_ ?_ ?_ | refine wl_and127 ?_ ?_ | refine wl_or128 ?_ ?_ ?_ | refine wl_min ?_ ?_ ?_ | refine wl_max ?_ ?_ ?_ | refine wl_mul ?_ ?_) | ((with_reducible refine wl_conv ?_ ?_ ?_ ?_); (· kernel_rfl); (· kernel_rfl)) | ((with_reducible refine wl_len ?_ ?_ ?_); rotate_left 1; (· simp [evb, kb, hN, h0, kNum, bigb, sdb]); rotate_left 1; (· kernel_rfl)) | ((with_reducible refine wl_lenS ?_ ?_ ?_); rotate_left 1; (· simp [evb, kb, hN, h0, kNum, bigb, sdb]); rotate_left 1; (· kernel_rfl)) | ((with_reducible refine wl_pickT ?_ ?_); (· simp [evb, kb, hN, h0, kNum, bigb, sdb])) | ((with_reducible refine wl_pickF ?_ ?_); (· simp [evb, kb, hN, h0, kNum, bigb, sdb]))) <;> (first | (with_reducible refine wl_id ?_; try simp only [evb, kb, hN, Nat.reduceLT, Nat.reduceEqDiff, reduceIte, Int.reduceToNat, Int.reduceBEq, h0, kNum, bigb]) | (simp [evb, kb, hN, h0, kNum, bigb, sdb] <;> omega))) | ((with_reducible apply wl_gyesB); (· exact rfl); (· exact rfl); (· simp [evb, kb, hN, h0, kNum, bigb, sdb]); try simp only [evb, kb, hN, Nat.reduceLT, Nat.reduceEqDiff, reduceIte, Int.reduceToNat, Int.reduceBEq, h0, kNum, bigb]) | ((with_reducible apply wl_gnoB); (· exact rfl); (· exact rfl); (· simp [evb, kb, hN, h0, kNum, bigb, sdb]); try simp only [evb, kb, hN, Nat.reduceLT, Nat.reduceEqDiff, reduceIte, Int.reduceToNat, Int.reduceBEq, h0, kNum, bigb]) | ((with_reducible apply wl_gnoU); (· exact rfl); (· exact rfl); (· simp [evb, kb, hN, h0, kNum, bigb, sdb]); try simp only [evb, kb, hN, Nat.reduceLT, Nat.reduceEqDiff, reduceIte, Int.reduceToNat, Int.reduceBEq, h0, kNum, bigb]))); (refine wl_nil ?_)) | ((with_reducible refine wp_cond_true ?_ ?_); (· simp [evb, kb, hN, h0, kNum, sdb])) | ((with_reducible refine wp_cond_false ?_ ?_); (· simp [evb, kb, hN, h0, kNum, sdb])) | (with_reducible refine wp_skip ?_) | (refine hK _ _ ?_; clear hK K)))
    refine wp_reg ?_
    with_reducible refine wl_fieldAt (b := w.heap.size) (off := 1) (n := 1) ?_ ?_ ?_; (· kernel_rfl); (· simp [evb, kb, hN, sdb])
    with_reducible refine wl_load (b := w.heap.size) (o := 1) ?_ ?_ hb t1 ?_; (· kernel_rfl); (· simp [evb, kb, hN, sdb])
    refine wl_call (fun args w => Tryd.call48 args w) (by simp [evb, kb, hN, Nat.reduceLT, Nat.reduceEqDiff, reduceIte, Int.reduceToNat, Int.reduceBEq]; exact whole_c v.b hcb) ?_
    rintro _ _ ⟨rfl, rfl⟩
    (repeat (first | ((first | (with_reducible first | refine wl_move ?_ | refine wl_assign ?_ | refine wl_add ?_ ?_ | refine wl_sub ?_ ?_ | refine wl_lss ?_ ?_ | refine wl_leq ?_ ?_ | refine wl_gtr ?_ ?_ | refine wl_geq ?_ ?_ | refine wl_eql ?_ ?_ | refine wl_neq ?_ ?_ | refine wl_not ?_ ?_ | refine wl_shr ?_ ?_ ?_ | refine wl_and127 ?_ ?_ | refine wl_or128 ?_ ?_ ?_) | ((with_reducible refine wl_conv ?_ ?_ ?_ ?_); (· kernel_rfl); (· kernel_rfl)) | ((with_reducible refine wl_len ?_ ?_ ?_); rotate_left 1; (· simp [evb, kb, hN, sdb]); rotate_left 1; (· kernel_rfl)) | ((with_reducible refine wl_lenS ?_ ?_ ?_); rotate_left 1; (· simp [evb, kb, hN, sdb]); rotate_left 1; (· kernel_rfl))) <;> (first | (with_reducible refine wl_id ?_; try simp only [evb, kb, hN, Nat.reduceLT, Nat.reduceEqDiff, reduceIte, Int.reduceToNat, Int.reduceBEq]) | (simp [evb, kb, hN, sdb] <;> omega)))))
    refine wl_nil ?_; refine hK _ _ ?_; clear hK K
    have hbt := (hbb.take MOST).stay (Stay.none hc)
    generalize v.b.take MOST = tb at hbt hlim ⊢
    cases nul with
    | true =>
      (repeat (first | (with_reducible refine wp_seq_k (fun K hK => ?_)) | (with_reducible refine wp_block ?_) | ((with_reducible refine wp_reg ?_); (repeat (first | ((first | (with_reducible first | refine wl_move ?_ | refine wl_assign ?_ | refine wl_add ?_ ?_ | refine wl_sub ?_ ?_ | refine wl_lss ?_ ?_ | refine wl_leq ?_ ?_ | refine wl_gtr ?_ ?_ | refine wl_geq ?_ ?_ | refine wl_eql ?_ ?_ | refine wl_neq ?_ ?_ | refine wl_not ?_ ?_ | refine wl_shr ?_ ?_ ?_ | refine wl_and127 ?_ ?_ | refine wl_or128 ?_ ?_ ?_ | refine wl_min ?_ ?_ ?_ | refine wl_max ?_ ?_ ?_ | refine wl_mul ?_ ?_) | ((with_reducible refine wl_conv ?_ ?_ ?_ ?_); (· kernel_rfl); (· kernel_rfl)) | ((with_reducible refine wl_len ?_ ?_ ?_); rotate_left 1; (· simp [evb, kb, hN, h2, bigb, sdb]); rotate_left 1; (· kernel_rfl)) | ((with_reducible refine wl_lenS ?_ ?_ ?_); rotate_left 1; (· simp [evb, kb, hN, h2, bigb, sdb]); rotate_left 1; (· kernel_rfl)) | ((with_reducible refine wl_pickT ?_ ?_); (· simp [evb, kb, hN, h2, bigb, sdb])) | ((with_reducible refine wl_pickF ?_ ?_); (· simp [evb, kb, hN, h2, bigb, sdb]))) <;> (first | (with_reducible refine wl_id ?_; try simp only [evb, kb, hN, Nat.reduceLT, Nat.reduceEqDiff, reduceIte, Int.reduceToNat, Int.reduceBEq, h2, bigb]) | (simp [evb, kb, hN, h2, bigb, sdb] <;> omega))) | ((with_reducible apply wl_gyesB); (· exact rfl); (· exact rfl); (· simp [evb, kb, hN, h2, bigb, sdb]); try simp only [evb, kb, hN, Nat.reduceLT, Nat.reduceEqDiff, reduceIte, Int.reduceToNat, Int.reduceBEq, h2, bigb]) | ((with_reducible apply wl_gnoB); (· exact rfl); (· exact rfl); (· simp [evb, kb, hN, h2, bigb, sdb]); try simp only [evb, kb, hN, Nat.reduceLT, Nat.reduceEqDiff, reduceIte, Int.reduceToNat, Int.reduceBEq, h2, bigb]) | ((with_reducible apply wl_gnoU); (· exact rfl); (· exact rfl); (· simp [evb, kb, hN, h2, bigb, sdb]); try simp only [evb, kb, hN, Nat.reduceLT, Nat.reduceEqDiff, reduceIte, Int.reduceToNat, Int.reduceBEq, h2, bigb]))); (refine wl_nil ?_)) | ((with_reducible refine wp_cond_true ?_ ?_); (· simp [evb, kb, hN, h2, sdb])) | ((with_reducible refine wp_cond_false ?_ ?_); (· simp [evb, kb, hN, h2, sdb])) | (with_reducible refine wp_skip ?_) | (refine hK _ _ ?_; clear hK K)))
      refine wp_reg ?_
      (repeat (first | ((first | (with_reducible first | refine wl_move ?_ | refine wl_assign ?_ | refine wl_add ?_ ?_ | refine wl_sub ?_ ?_ | refine wl_lss ?_ ?_ | refine wl_leq ?_ ?_ | refine wl_gtr ?_ ?_ | refine wl_geq ?_ ?_ | refine wl_eql ?_ ?_ | refine wl_neq ?_ ?_ | refine wl_not ?_ ?_ | refine wl_shr ?_ ?_ ?_ | refine wl_and127 ?_ ?_ | refine wl_or128 ?_ ?_ ?_) | ((with_reducible refine wl_conv ?_ ?_ ?_ ?_); (· kernel_rfl); (· kernel_rfl)) | ((with_reducible refine wl_len ?_ ?_ ?_); rotate_left 1; (· simp [evb, kb, hN, h2, h4, sdb]); rotate_left 1; (· kernel_rfl)) | ((with_reducible refine wl_lenS ?_ ?_ ?_); rotate_left 1; (· simp [evb, kb, hN, h2, h4, sdb]); rotate_left 1; (· kernel_rfl))) <;> (first | (with_reducible refine wl_id ?_; try simp only [evb, kb, hN, Nat.reduceLT, Nat.reduceEqDiff, reduceIte, Int.reduceToNat, Int.reduceBEq, h2, h4]) | (simp [evb, kb, hN, h2, h4, sdb] <;> omega)))))
      simp only [if_true, List.length_nil] at hlim ⊢
      refine wl_call (fun args w => Tryd.call60 args w) (by simp [evb, kb, hN, Nat.reduceLT, Nat.reduceEqDiff, reduceIte, Int.reduceToNat, Int.reduceBEq]; exact counted_c flex true 0 4 (by omega) (by omega)) ?_
      rintro r w2 ho
      (repeat (first | ((first | (with_reducible first | refine wl_move ?_ | refine wl_assign ?_ | refine wl_add ?_ ?_ | refine wl_sub ?_ ?_ | refine wl_lss ?_ ?_ | refine wl_leq ?_ ?_ | refine wl_gtr ?_ ?_ | refine wl_geq ?_ ?_ | refine wl_eql ?_ ?_ | refine wl_neq ?_ ?_ | refine wl_not ?_ ?_ | refine wl_shr ?_ ?_ ?_ | refine wl_and127 ?_ ?_ | refine wl_or128 ?_ ?_ ?_) | ((with_reducible refine wl_conv ?_ ?_ ?_ ?_); (· kernel_rfl); (· kernel_rfl)) | ((with_reducible refine wl_len ?_ ?_ ?_); rotate_left 1; (· simp [evb, kb, hN, sdb]); rotate_left 1; (· kernel_rfl)) | ((with_reducible refine wl_lenS ?_ ?_ ?_); rotate_left 1; (· simp [evb, kb, hN, sdb]); rotate_left 1; (· kernel_rfl))) <;> (first | (with_reducible refine wl_id ?_; try simp only [evb, kb, hN, Nat.reduceLT, Nat.reduceEqDiff, reduceIte, Int.reduceToNat, Int.reduceBEq]) | (simp [evb, kb, hN, sdb] <;> omega)))))
      refine wl_append bT (bs' := []) (oa := none) (c := 0) (G := fun _ => True) (by simp only [evb, kb, hN, Nat.reduceLT, Nat.reduceEqDiff, reduceIte, Int.reduceToNat, Int.reduceBEq]) (by simp only [evb, kb, hN, Nat.reduceLT, Nat.reduceEqDiff, reduceIte, Int.reduceToNat, Int.reduceBEq]; rfl) ho.1 (.inl rfl) (by unfold LIM; first | omega | (simp only [List.length_nil]; omega)) ho.2.size ?_
      intro r2 w3 happ
      refine wl_assign ?_
      simp only [evb, kb, hN, Nat.reduceLT, Nat.reduceEqDiff, reduceIte, Int.reduceToNat, Int.reduceBEq]
      refine wl_nil ?_; refine hK _ _ ?_; clear hK K
      refine wp_ret ⟨by simp [defers_put, hD], ?_⟩; simp only [evb, kb, hN, Nat.reduceLT, Nat.reduceEqDiff, reduceIte, Int.reduceToNat, Int.reduceBEq]
      exact ⟨happ.own.mono hc.size, hc.trans (ho.2.trans (happ.chgFrom ho.1) fun _ hx h => by omega) fun n hx h => by omega⟩
    | false =>
      (repeat (first | (with_reducible refine wp_seq_k (fun K hK => ?_)) | (with_reducible refine wp_block ?_) | ((with_reducible refine wp_reg ?_); (repeat (first | ((first | (with_reducible first | refine wl_move ?_ | refine wl_assign ?_ | refine wl_add ?_ ?_ | refine wl_sub ?_ ?_ | refine wl_lss ?_ ?_ | refine wl_leq ?_ ?_ | refine wl_gtr ?_ ?_ | refine wl_geq ?_ ?_ | refine wl_eql ?_ ?_ | refine wl_neq ?_ ?_ | refine wl_not ?_ ?_ | refine wl_shr ?_ ?_ ?_ | refine wl_and127 ?_ ?_ | refine wl_or128 ?_ ?_ ?_ | refine wl_min ?_ ?_ ?_ | refine wl_max ?_ ?_ ?_ | refine wl_mul ?_ ?_) | ((with_reducible refine wl_conv ?_ ?_ ?_ ?_); (· kernel_rfl); (· kernel_rfl)) | ((with_reducible refine wl_len ?_ ?_ ?_); rotate_left 1; (· simp [evb, kb, hN, h2, bigb, sdb]); rotate_left 1; (· kernel_rfl)) | ((with_reducible refine wl_lenS ?_ ?_ ?_); rotate_left 1; (· simp [evb, kb, hN, h2, bigb, sdb]); rotate_left 1; (· kernel_rfl)) | ((with_reducible refine wl_pickT ?_ ?_); (· simp [evb, kb, hN, h2, bigb, sdb])) | ((with_reducible refine wl_pickF ?_ ?_); (· simp [evb, kb, hN, h2, bigb, sdb]))) <;> (first | (with_reducible refine wl_id ?_; try simp only [evb, kb, hN, Nat.reduceLT, Nat.reduceEqDiff, reduceIte, Int.reduceToNat, Int.reduceBEq, h2, bigb]) | (simp [evb, kb, hN, h2, bigb, sdb] <;> omega))) | ((with_reducible apply wl_gyesB); (· exact rfl); (· exact rfl); (· simp [evb, kb, hN, h2, bigb, sdb]); try simp only [evb, kb, hN, Nat.reduceLT, Nat.reduceEqDiff, reduceIte, Int.reduceToNat, Int.reduceBEq, h2, bigb]) | ((with_reducible apply wl_gnoB); (· exact rfl); (· exact rfl); (· simp [evb, kb, hN, h2, bigb, sdb]); try simp only [evb, kb, hN, Nat.reduceLT, Nat.reduceEqDiff, reduceIte, Int.reduceToNat, Int.reduceBEq, h2, bigb]) | ((with_reducible apply wl_gnoU); (· exact rfl); (· exact rfl); (· simp [evb, kb, hN, h2, bigb, sdb]); try simp only [evb, kb, hN, Nat.reduceLT, Nat.reduceEqDiff, reduceIte, Int.reduceToNat, Int.reduceBEq, h2, bigb]))); (refine wl_nil ?_)) | ((with_reducible refine wp_cond_true ?_ ?_); (· simp [evb, kb, hN, h2, sdb])) | ((with_reducible refine wp_cond_false ?_ ?_); (· simp [evb, kb, hN, h2, sdb])) | (with_reducible refine wp_skip ?_) | (refine hK _ _ ?_; clear hK K)))
      refine wp_reg ?_
      (repeat (first | ((first | (with_reducible first | refine wl_move ?_ | refine wl_assign ?_ | refine wl_add ?_ ?_ | refine wl_sub ?_ ?_ | refine wl_lss ?_ ?_ | refine wl_leq ?_ ?_ | refine wl_gtr ?_ ?_ | refine wl_geq ?_ ?_ | refine wl_eql ?_ ?_ | refine wl_neq ?_ ?_ | refine wl_not ?_ ?_ | refine wl_shr ?_ ?_ ?_ | refine wl_and127 ?_ ?_ | refine wl_or128 ?_ ?_ ?_) | ((with_reducible refine wl_conv ?_ ?_ ?_ ?_); (· kernel_rfl); (· kernel_rfl)) | ((with_reducible refine wl_len ?_ ?_ ?_); rotate_left 1; (· simp [evb, kb, hN, h2, h4, sdb]); rotate_left 1; (· kernel_rfl)) | ((with_reducible refine wl_lenS ?_ ?_ ?_); rotate_left 1; (· simp [evb, kb, hN, h2, h4, sdb]); rotate_left 1; (· kernel_rfl))) <;> (first | (with_reducible refine wl_id ?_; try simp only [evb, kb, hN, Nat.reduceLT, Nat.reduceEqDiff, reduceIte, Int.reduceToNat, Int.reduceBEq, h2, h4]) | (simp [evb, kb, hN, h2, h4, sdb] <;> omega)))))
      simp only [Bool.false_eq_true, if_false] at hlim ⊢
      refine wl_call (fun args w => Tryd.call60 args w) (by simp [evb, kb, hN, Nat.reduceLT, Nat.reduceEqDiff, reduceIte, Int.reduceToNat, Int.reduceBEq]; exact counted_c flex false tb.length 4 (by omega) (by omega)) ?_
      rintro r w2 ho
      (repeat (first | ((first | (with_reducible first | refine wl_move ?_ | refine wl_assign ?_ | refine wl_add ?_ ?_ | refine wl_sub ?_ ?_ | refine wl_lss ?_ ?_ | refine wl_leq ?_ ?_ | refine wl_gtr ?_ ?_ | refine wl_geq ?_ ?_ | refine wl_eql ?_ ?_ | refine wl_neq ?_ ?_ | refine wl_not ?_ ?_ | refine wl_shr ?_ ?_ ?_ | refine wl_and127 ?_ ?_ | refine wl_or128 ?_ ?_ ?_) | ((with_reducible refine wl_conv ?_ ?_ ?_ ?_); (· kernel_rfl); (· kernel_rfl)) | ((with_reducible refine wl_len ?_ ?_ ?_); rotate_left 1; (· simp [evb, kb, hN, sdb]); rotate_left 1; (· kernel_rfl)) | ((with_reducible refine wl_lenS ?_ ?_ ?_); rotate_left 1; (· simp [evb, kb, hN, sdb]); rotate_left 1; (· kernel_rfl))) <;> (first | (with_reducible refine wl_id ?_; try simp only [evb, kb, hN, Nat.reduceLT, Nat.reduceEqDiff, reduceIte, Int.reduceToNat, Int.reduceBEq]) | (simp [evb, kb, hN, sdb] <;> omega)))))
      refine wl_append bT (bs' := tb) (oa := ob) (c := cb) (G := G') (by simp only [evb, kb, hN, Nat.reduceLT, Nat.reduceEqDiff, reduceIte, Int.reduceToNat, Int.reduceBEq]) (by simp only [evb, kb, hN, Nat.reduceLT, Nat.reduceEqDiff, reduceIte, Int.reduceToNat, Int.reduceBEq]) ho.1 (hbt.stay (Stay.none ho.2)) (by unfold LIM; first | omega | (simp only [List.length_nil]; omega)) ho.2.size ?_
      intro r2 w3 happ
      refine wl_assign ?_
      simp only [evb, kb, hN, Nat.reduceLT, Nat.reduceEqDiff, reduceIte, Int.reduceToNat, Int.reduceBEq]
      refine wl_nil ?_; refine hK _ _ ?_; clear hK K
      refine wp_ret ⟨by simp [defers_put, hD], ?_⟩; simp only [evb, kb, hN, Nat.reduceLT, Nat.reduceEqDiff, reduceIte, Int.reduceToNat, Int.reduceBEq]
      exact ⟨happ.own.mono hc.size, hc.trans (ho.2.trans (happ.chgFrom ho.1) fun _ hx h => by omega) fun n hx h => by omega⟩
  case struct =>
    (repeat (first | (with_reducible refine wp_seq_k (fun K hK => ?_)) | (with_reducible refine wp_block ?_) | ((with_reducible refine wp_reg ?_); (repeat (first | ((first | (with_reducible first | refine wl_move ?_ | refine wl_assign ?_ | refine wl_add ?_ ?_ | refine wl_sub ?_ ?_ | refine wl_lss ?_ ?_ | refine wl_leq ?_ ?_ | refine wl_gtr ?_ ?_ | refine wl_geq ?_ ?_ | refine wl_eql ?_ ?_ | refine wl_neq ?_ ?_ | refine wl_not ?_ ?_ | refine wl_shr ?_ ?_ ?_ | refine wl_and127 ?_ ?_ | refine wl_or128 ?_ ?_ ?_ | refine wl_min ?_ ?_ ?_ | refine wl_max ?_ ?_ ?_ | refine wl_mul ?_ ?_) | ((with_reducible refine wl_conv ?_ ?_ ?_ ?_); (· kernel_rfl); (· kernel_rfl)) | ((with_reducible refine wl_len ?_ ?_ ?_); rotate_left 1; (· simp [evb, kb, hN, h0, h1, h3, h4, kNum, bigb, sdb]); rotate_left 1; (· kernel_rfl)) | ((with_reducible refine wl_lenS ?_ ?_ ?_); rotate_left 1; (· simp [evb, kb, hN, h0, h1, h3, h4, kNum, bigb, sdb]); rotate_left 1; (· kernel_rfl)) | ((with_reducible refine wl_pickT ?_ ?_); (· simp [evb, kb, hN, h0, h1, h3, h4, kNum, bigb, sdb])) | ((with_reducible refine wl_pickF ?_ ?_); (· simp [evb, kb, hN, h0, h1, h3, h4, kNum, bigb, sdb]))) <;> (first | (with_reducible refine wl_id ?_; try simp only [evb, kb, hN, Nat.reduceLT, Nat.reduceEqDiff, reduceIte, Int.reduceToNat, Int.reduceBEq, h0, h1, h3, h4, kNum, bigb]) | (simp [evb, kb, hN, h0, h1, h3, h4, kNum, bigb, sdb] <;> omega))) | ((with_reducible apply wl_gyesB); (· exact rfl); (· exact rfl); (· simp [evb, kb, hN, h0, h1, h3, h4, kNum, bigb, sdb]); try simp only [evb, kb, hN, Nat.reduceLT, Nat.reduceEqDiff, reduceIte, Int.reduceToNat, Int.reduceBEq, h0, h1, h3, h4, kNum, bigb]) | ((with_reducible apply wl_gnoB); (· exact rfl); (· exact rfl); (· simp [evb, kb, hN, h0, h1, h3, h4, kNum, bigb, sdb]); try simp only [evb, kb, hN, Nat.reduceLT, Nat.reduceEqDiff, reduceIte, Int.reduceToNat, Int.reduceBEq, h0, h1, h3, h4, kNum, bigb]) | ((with_reducible apply wl_gnoU); (· exact rfl); (· exact rfl); (· simp [evb, kb, hN, h0, h1, h3, h4, kNum, bigb, sdb]); try simp only [evb, kb, hN, Nat.reduceLT, Nat.reduceEqDiff, reduceIte, Int.reduceToNat, Int.reduceBEq, h0, h1, h3, h4, kNum, bigb]))); (refine wl_nil ?_)) | ((with_reducible refine wp_cond_true ?_ ?_); (· simp [evb, kb, hN, h0, h1, h3, h4, kNum, sdb])) | ((with_reducible refine wp_cond_false ?_ ?_); (· simp [evb, kb, hN, h0, h1, h3, h4, kNum, sdb])) | (with_reducible refine wp_skip ?_) | (refine hK _ _ ?_; clear hK K)))
    refine wp_reg ?_
    (repeat (first | ((first | (with_reducible first | refine wl_move ?_ | refine wl_assign ?_ | refine wl_add ?_ ?_ | refine wl_sub ?_ ?_ | refine wl_lss ?_ ?_ | refine wl_leq ?_ ?_ | refine wl_gtr ?_ ?_ | refine wl_geq ?_ ?_ | refine wl_eql ?_ ?_ | refine wl_neq ?_ ?_ | refine wl_not ?_ ?_ | refine wl_shr ?_ ?_ ?_ | refine wl_and127 ?_ ?_ | refine wl_or128 ?_ ?_ ?_) | ((with_reducible refine wl_conv ?_ ?_ ?_ ?_); (· kernel_rfl); (· kernel_rfl)) | ((with_reducible refine wl_len ?_ ?_ ?_); rotate_left 1; (· simp [evb, kb, hN, h1, h3, h4, sdb]); rotate_left 1; (· kernel_rfl)) | ((with_reducible refine wl_lenS ?_ ?_ ?_); rotate_left 1; (· simp [evb, kb, hN, h1, h3, h4, sdb]); rotate_left 1; (· kernel_rfl))) <;> (first | (with_reducible refine wl_id ?_; try simp only [evb, kb, hN, Nat.reduceLT, Nat.reduceEqDiff, reduceIte, Int.reduceToNat, Int.reduceBEq, h1, h3, h4]) | (simp [evb, kb, hN, h1, h3, h4, sdb] <;> omega)))))
    refine wl_loadAgg (b := w.heap.size) (o := 0) (n := 5) (by kernel_rfl) (by kernel_rfl) (by simp [evb, kb, hN, sdb]) hb (by rw [hv.len]; omega) ?_
    have e5 : (ts.drop 0).take 5 = ts := by rw [List.drop_zero, List.take_of_length_le (by rw [hv.len]; omega)]
    rw [e5]
    refine wl_call (fun args w => Tryd.call28 args w) (by simp [evb, kb, hN, Nat.reduceLT, Nat.reduceEqDiff, reduceIte, Int.reduceToNat, Int.reduceBEq, h1, h3, h4]; exact hp rfl ver flex v hvo hlim (hsub.stay (Stay.none hc)) (hv.stay (Stay.none hc))) ?_
    rintro r w2 ho
    (repeat (first | ((first | (with_reducible first | refine wl_move ?_ | refine wl_assign ?_ | refine wl_add ?_ ?_ | refine wl_sub ?_ ?_ | refine wl_lss ?_ ?_ | refine wl_leq ?_ ?_ | refine wl_gtr ?_ ?_ | refine wl_geq ?_ ?_ | refine wl_eql ?_ ?_ | refine wl_neq ?_ ?_ | refine wl_not ?_ ?_ | refine wl_shr ?_ ?_ ?_ | refine wl_and127 ?_ ?_ | refine wl_or128 ?_ ?_ ?_) | ((with_reducible refine wl_conv ?_ ?_ ?_ ?_); (· kernel_rfl); (· kernel_rfl)) | ((with_reducible refine wl_len ?_ ?_ ?_); rotate_left 1; (· simp [evb, kb, hN, sdb]); rotate_left 1; (· kernel_rfl)) | ((with_reducible refine wl_lenS ?_ ?_ ?_); rotate_left 1; (· simp [evb, kb, hN, sdb]); rotate_left 1; (· kernel_rfl))) <;> (first | (with_reducible refine wl_id ?_; try simp only [evb, kb, hN, Nat.reduceLT, Nat.reduceEqDiff, reduceIte, Int.reduceToNat, Int.reduceBEq]) | (simp [evb, kb, hN, sdb] <;> omega)))))
    refine wl_nil ?_; refine hK _ _ ?_; clear hK K
    refine wp_ret ⟨by simp [defers_put, hD], ?_⟩; simp only [evb, kb, hN, Nat.reduceLT, Nat.reduceEqDiff, reduceIte, Int.reduceToNat, Int.reduceBEq]
    exact ⟨ho.1.mono hc.size, hc.trans ho.2 fun _ _ h => h⟩
  all_goals
    (repeat (first | (with_reducible refine wp_seq_k (fun K hK => ?_)) | (with_reducible refine wp_block ?_) | ((with_reducible refine wp_reg ?_); (repeat (first | ((first | (with_reducible first | refine wl_move ?_ | refine wl_assign ?_ | refine wl_add ?_ ?_ | refine wl_sub ?_ ?_ | refine wl_lss ?_ ?_ | refine wl_leq ?_ ?_ | refine wl_gtr ?_ ?_ | refine wl_geq ?_ ?_ | refine wl_eql ?_ ?_ | refine wl_neq ?_ ?_ | refine wl_not ?_ ?_ | refine wl_shr ?_ ?_ ?_ | refine wl_and127 ?_ ?_ | refine wl_or128 ?_ ?_ ?_ | refine wl_min ?_ ?_ ?_ | refine wl_max ?_ ?_ ?_ | refine wl_mul ?_ ?_) | ((with_reducible refine wl_conv ?_ ?_ ?_ ?_); (· kernel_rfl); (· kernel_rfl)) | ((with_reducible refine wl_len ?_ ?_ ?_); rotate_left 1; (· simp [evb, kb, hN, h0, kNum, bigb, sdb]); rotate_left 1; (· kernel_rfl)) | ((with_reducible refine wl_lenS ?_ ?_ ?_); rotate_left 1; (· simp [evb, kb, hN, h0, kNum, bigb, sdb]); rotate_left 1; (· kernel_rfl)) | ((with_reducible refine wl_pickT ?_ ?_); (· simp [evb, kb, hN, h0, kNum, bigb, sdb])) | ((with_reducible refine wl_pickF ?_ ?_); (· simp [evb, kb, hN, h0, kNum, bigb, sdb]))) <;> (first | (with_reducible refine wl_id ?_; try simp only [evb, kb, hN, Nat.reduceLT, Nat.reduceEqDiff, reduceIte, Int.reduceToNat, Int.reduceBEq, h0, kNum, bigb]) | (simp [evb, kb, hN, h0, kNum, bigb, sdb] <;> omega))) | ((with_reducible apply wl_gyesB); (· exact rfl); (· exact rfl); (· simp [evb, kb, hN, h0, kNum, bigb, sdb]); try simp only [evb, kb, hN, Nat.reduceLT, Nat.reduceEqDiff, reduceIte, Int.reduceToNat, Int.reduceBEq, h0, kNum, bigb]) | ((with_reducible apply wl_gnoB); (· exact rfl); (· exact rfl); (· simp [evb, kb, hN, h0, kNum, bigb, sdb]); try simp only [evb, kb, hN, Nat.reduceLT, Nat.reduceEqDiff, reduceIte, Int.reduceToNat, Int.reduceBEq, h0, kNum, bigb]) | ((with_reducible apply wl_gnoU); (· exact rfl); (· exact rfl); (· simp [evb, kb, hN, h0, kNum, bigb, sdb]); try simp only [evb, kb, hN, Nat.reduceLT, Nat.reduceEqDiff, reduceIte, Int.reduceToNat, Int.reduceBEq, h0, kNum, bigb]))); (refine wl_nil ?_)) | ((with_reducible refine wp_cond_true ?_ ?_); (· simp [evb, kb, hN, h0, kNum, sdb])) | ((with_reducible refine wp_cond_false ?_ ?_); (· simp [evb, kb, hN, h0, kNum, sdb])) | (with_reducible refine wp_skip ?_) | (refine hK _ _ ?_; clear hK K)))
    refine hK0 _ _ ?_; try clear hK0 K0
    refine wp_seq_k fun K hK => ?_
    refine wp_sched (fun w' => Chg (fun _ => False) w1 w') [(true, 0), (true, 1), (true, 2), (false, 3), (false, 4), (true, 5)] follows_any (by kernel_rfl) (by kernel_rfl) (Chg.drew _ _) ?_
    refine ws_fieldAddr (b := w.heap.size) (o := 0) (off := 0) (n := 1) (by kernel_rfl) rfl (by simp [evb, kb, hN, sdb]) ?_
    refine ws_load (b := w.heap.size) (o := 0 + 0) (by kernel_rfl) rfl (by simp [evb, kb, hN, sdb]) (fun w' hw => hb.chg hw (fun h => h)) t0 ?_
    refine ws_move rfl ?_
    simp only [evb, kb, hN, Nat.reduceLT, Nat.reduceEqDiff, reduceIte, Int.reduceToNat, Int.reduceBEq, h0]
    refine ws_call (fun args w => Tryd.call62 args w) rfl (by simp [evb, kb, hN, Nat.reduceLT, Nat.reduceEqDiff, reduceIte, Int.reduceToNat, Int.reduceBEq]; exact width_c _ (by decide)) ?_
    rintro _ w3 ⟨rfl, rfl⟩
    refine ⟨Chg.drew _ _, ?_⟩
    refine ws_call (fun args w => Tryd.call19 args w) rfl (by simp [evb, kb, hN, Nat.reduceLT, Nat.reduceEqDiff, reduceIte, Int.reduceToNat, Int.reduceBEq]; exact Fixed_c v.n _ (by decide)) ?_
    rintro v1 w3 ho1
    have hk1 : Chg (fun _ => False) w1 w3 := (Chg.drew _ _).trans ho1.2 fun _ _ h => h
    refine ⟨hk1, ?_⟩
    refine ws_assign rfl ?_
    simp only [evb, kb, hN, Nat.reduceLT, Nat.reduceEqDiff, reduceIte, Int.reduceToNat, Int.reduceBEq]
    refine ws_nil ?_
    refine hK _ _ ?_
    clear hK K
    refine wp_ret ⟨by simp [defers_put, hD], ?_⟩; simp only [evb, kb, hN, Nat.reduceLT, Nat.reduceEqDiff, reduceIte, Int.reduceToNat, Int.reduceBEq]
    exact ⟨ho1.1.mono hc.size, hc.trans hk1 fun _ _ h => h⟩
end Go.Proofs.YtgjnllebnkjofaaDoor
