import Derived.Test.YtnjjfpgpookjlaaGreatDoorZS
import Derived.Test.YtnjjfpgpookjlaaGreatDoorZA
/-
What the proofs of the laws rest on, part ZU.
-/
namespace Go.Proofs.YtnjjfpgpookjlaaGreatDoor
set_option linter.all false
open Go.RowKit
set_option maxRecDepth 10000
set_option maxHeartbeats 2000000
abbrev tTg : TypeId := 59
abbrev tTgs : TypeId := 24
def unkPos (k : Nat) : za5 → Nat
 | [] => 0
 | y :: r => if y.1 < k then unkPos k r + 1 else 0
theorem unkPos_le (k : Nat) : ∀ l, unkPos k l ≤ l.length
 | [] => Nat.le_refl _
 | y :: r => by unfold unkPos; split <;> simp [unkPos_le k r]
theorem unk_below {k : Nat} : ∀ {l : za5} {j : Nat}, j < unkPos k l → ∃ y, l[j]? = some y ∧ y.1 < k
 | [], j, h => by simp [unkPos] at h
 | y :: r, j, h => by
  unfold unkPos at h
  split at h
  ·rename_i hy
   cases j with
   | zero => exact ⟨y, rfl, hy⟩
   | succ j => simpa using unk_below (l := r) (j := j) (by omega)
  ·omega
theorem unk_at {k : Nat} : ∀ {l : za5} {y : Nat × Bs}, l[unkPos k l]? = some y → ¬ y.1 < k
 | [], y, h => by simp at h
 | z :: r, y, h => by
  unfold unkPos at h
  split at h
  ·exact unk_at (l := r) (by simpa using h)
  ·rename_i hz
   simp at h; subst h; exact hz
theorem unkIns_old (x : Nat × Bs) : ∀ {l : za5} {y : Nat × Bs}, l[unkPos x.1 l]? = some y → y.1 = x.1 → unkIns x l = l
 | [], y, h, _ => by simp at h
 | z :: r, y, h, e => by
  unfold unkPos at h
  unfold unkIns
  split at h
  ·rename_i hz
   rw [if_pos hz, unkIns_old x (l := r) (by simpa using h) e]
  ·rename_i hz
   simp at h; subst h
   rw [if_neg hz, if_pos e]
theorem unkIns_new (x : Nat × Bs) : ∀ {l : za5}, (∀ y, l[unkPos x.1 l]? = some y → y.1 ≠ x.1) → unkIns x l = l.take (unkPos x.1 l) ++ x :: l.drop (unkPos x.1 l)
 | [], h => rfl
 | z :: r, h => by
  unfold unkPos at h ⊢
  unfold unkIns
  by_cases hz : z.1 < x.1
  ·simp only [if_pos hz] at h ⊢
   rw [unkIns_new x (l := r) (fun y hy => h y (by simpa using hy))]
   simp
  ·simp only [if_neg hz] at h ⊢
   rw [if_neg (h z (by simp))]
   simp
theorem TgL.of {w : World} {G : Nat → Prop} : ∀ {l : za5} {vs : List Value}, (∀ i x, l[i]? = some x → TgC w G x ((vs.drop (i * 2)).take 2)) → TgL w G l vs
 | [], _, _ => trivial
 | x :: r, vs, h => ⟨by simpa using h 0 x rfl, TgL.of fun i y hy => by
   have := h (i + 1) y (by simpa using hy)
   rw [List.drop_drop, show 2 + i * 2 = (i + 1) * 2 by omega]
   exact this⟩
structure UkI (w : World) (base : Nat) (G : Nat → Prop) (acc : za5) (v : Value) : Prop where
 row : ∃ cs, w.ownsRow base tTg 2 v acc.length cs ∧ TgL w G acc cs
theorem UkI.chg {w w' : World} {base : Nat} {G : Nat → Prop} {acc : za5} {v : Value} {X : Nat → Prop} (h : UkI w base G acc v) (c : Chg X w w') (hx : ∀ k, base ≤ k → k < w.heap.size → ¬ X k) (hG : ∀ k, G k → k < base) (hb : ∀ k, k < base → ¬ X k) : UkI w' base G acc v := by
 obtain ⟨cs, h1, h2⟩ := h.row
 refine ⟨cs, ⟨h1.1, ?_⟩, h2.stay (zbl.of c fun k hk _ => hb k (hG k hk))⟩
 rcases h1.2 with hn | ⟨g, cap, cur, rfl, hbg, hg, rest⟩
 ·exact .inl hn
 ·refine .inr ⟨g, cap, cur, rfl, hbg, ?_, rest⟩
  have hlt := (Array.getElem?_eq_some_iff.1 hg).1
  rw [c.block g hlt (hx g hbg hlt)]; exact hg
theorem UkI.some {w : World} {base : Nat} {G : Nat → Prop} {acc : za5} {v : Value} (h : UkI w base G acc v) (h0 : 0 < acc.length) :
  ∃ g cap C, v = .slice (some ⟨g, 0, none⟩) acc.length cap ∧ base ≤ g ∧ Blk w g C tTg ∧ acc.length * 2 ≤ C.length ∧ TgL w G acc C := by
 obtain ⟨cs, h1, h2⟩ := h.row
 rcases h1.2 with ⟨_, hn⟩ | ⟨g, cap, cur, rfl, hbg, hg, h3, h4, h5, h6⟩
 ·omega
 ·have hle : acc.length * 2 ≤ cur.size := by omega
  refine ⟨g, cap, cur.toList, rfl, hbg, by unfold Blk; simpa using hg, by simpa using hle, TgL.of fun i x hx => ?_⟩
  have hi := (List.getElem?_eq_some_iff.1 hx).1
  have := (h2.get hx).1
  rw [← h6] at this
  rw [List.drop_take, List.take_take] at this
  rwa [Nat.min_eq_left (by omega)] at this
theorem UkI.len {w : World} {base : Nat} {G : Nat → Prop} {acc : za5} {v : Value} (h : UkI w base G acc v) : ∃ oa cap, v = .slice oa acc.length cap := by
 obtain ⟨cs, h1, h2⟩ := h.row
 rcases h1.2 with ⟨rfl, hn⟩ | ⟨g, cap, cur, rfl, _⟩
 ·exact ⟨none, 0, by rw [hn]⟩
 ·exact ⟨_, _, rfl⟩
theorem TgL.key {w : World} {G : Nat → Prop} {l : za5} {C : List Value} {i : Nat} {x : Nat × Bs} (h : TgL w G l C) (hx : l[i]? = some x) : C[i * 2]? = some (.int .u32 x.1) := by
 obtain ⟨⟨ob, cb, h1, _⟩, _⟩ := h.get hx
 have := congrArg (·[0]?) h1
 simp only [List.getElem?_cons_zero] at this
 rw [List.getElem?_take_of_lt (by omega), List.getElem?_drop] at this
 simpa using this
theorem seg_ext {C D : List Value} {lo lo' n : Nat} (h : ∀ r, r < n → C[lo + r]? = D[lo' + r]?) : (C.drop lo).take n = (D.drop lo').take n := by
 apply List.ext_getElem?
 intro r
 by_cases hr : r < n
 ·rw [seg_get hr, seg_get hr]; exact h r hr
 ·rw [List.getElem?_eq_none (by rw [List.length_take]; omega), List.getElem?_eq_none (by rw [List.length_take]; omega)]
theorem spl_mid {l vs : List Value} {i k : Nat} (h : i + vs.length ≤ l.length) (hk : k < vs.length) : (zaE l i vs)[i + k]? = vs[k]? := by
 unfold zaE
 have e : (l.take i).length = i := by rw [List.length_take]; omega
 rw [List.append_assoc, List.getElem?_append_right (by omega), e, Nat.add_sub_cancel_left, List.getElem?_append_left hk]
theorem tgFacts : eSz Tryz.prog tTgs = 2 ∧ fOff Tryz.prog tTg 0 = 0 ∧ fOff Tryz.prog tTg 1 = 1 := ⟨by kernel_rfl, by kernel_rfl, by kernel_rfl⟩
theorem unknown_c (fs : List Fld) (t : za5) (hlen : fs.length ≤ 1073741824) (hsm : TagsSmall fs) (_hok : tagOK t) {w : World} {G G' : Nat → Prop} {oa : Option Addr} {cap : Nat} {vt : Value}
  (hv : SchS w G fs (.slice oa fs.length cap)) (ht : TgS w G' t vt) :
  zaF Tryz.prog 38 #[.slice oa fs.length cap, vt] w fun r w' => TgS w' (fun g => G' g ∨ w.heap.size ≤ g) (zba fs t) r ∧ Chg (fun _ => False) w w' := by
 obtain ⟨ot, ct, rfl, hct, htl⟩ := ht
 refine zaq Tryz.func38 rfl rfl Tryz.ntmps38 (by simp) ?_
 intro a hN hD ha
 have h0 : get a 0 = .slice oa fs.length cap := ha 0 _ rfl
 have h1 : get a 1 = .slice ot t.length ct := ha 1 _ rfl
 refine qsr fun K hK => ?_; (repeat ((first | ((with_reducible refine zaw ?_ ?_ ?_ ?_); (· rfl); (· simp [qee, hN] <;> omega); (· kernel_rfl)) | ((with_reducible refine qlS ?_ ?_ ?_); (· simp [qed, hN]); (· kernel_rfl))); try simp only [qeb, hN, seval])); refine zaa (hK _ _ ?_); clear hK K
 refine qsr fun K hK => ?_; (repeat ((first | ((with_reducible refine zaw ?_ ?_ ?_ ?_); (· rfl); (· simp [qee, hN, h0] <;> omega); (· kernel_rfl)) | ((with_reducible refine qlS ?_ ?_ ?_); (· simp [qed, hN, h0]); (· kernel_rfl))); try simp only [qeb, hN, seval, h0]))
 refine zaz (fun args w => Tryz.call35 args w) (by simp [qea, hN, seval, h0]; exact known_c fs hlen hsm hv) ?_
 rintro v w1 ⟨rfl, hkn, hc⟩
 (repeat ((first | ((with_reducible refine zaw ?_ ?_ ?_ ?_); (· rfl); (· simp [qee, hN] <;> omega); (· kernel_rfl)) | ((with_reducible refine qlS ?_ ?_ ?_); (· simp [qed, hN]); (· kernel_rfl))); try simp only [qeb, hN, seval]))
 refine zaa (hK _ _ ?_); clear hK K
 refine qsr fun K hK => ?_; (repeat ((first | ((with_reducible refine zaw ?_ ?_ ?_ ?_); (· rfl); (· simp [qee, hN] <;> omega); (· kernel_rfl)) | ((with_reducible refine qlS ?_ ?_ ?_); (· simp [qed, hN]); (· kernel_rfl))); try simp only [qeb, hN, seval])); refine zaa (hK _ _ ?_); clear hK K
 refine qsk fun K0 hK0 => ?_; refine qsr fun K hK => ?_
 (repeat (first | ((with_reducible refine zaw ?_ ?_ ?_ ?_); (· exact rfl); (· simp [qee, hN, h1, zac] <;> omega); (· kernel_rfl); try simp only [qeb, hN, seval, h1, zac]) | ((with_reducible refine qlS ?_ ?_ ?_); (· simp [qed, hN, h1, zac]); (· kernel_rfl); try simp only [qeb, hN, seval, h1, zac]) | ((with_reducible first | refine zaC ?_ ?_ ?_ | refine zaB ?_ ?_ ?_ | refine zaD ?_ ?_) <;> (first | (with_reducible refine zau ?_; try simp only [qeb, hN, seval, h1, zac]) | (simp [qed, hN, h1, zac] <;> omega))) | ((with_reducible refine zao ?_ ?_); (· simp [qed, hN, h1, zac]); try simp only [qeb, hN, seval, h1, zac]) | ((with_reducible refine zan ?_ ?_); (· simp [qed, hN, h1, zac]); try simp only [qeb, hN, seval, h1, zac]) | ((with_reducible apply zak); (· exact rfl); (· exact rfl); (· simp [qed, hN, h1, zac]); try simp only [qeb, hN, seval, h1, zac]) | ((with_reducible apply zas); (· exact rfl); (· exact rfl); (· simp [qed, hN, h1, zac]); try simp only [qeb, hN, seval, h1, zac]) | ((with_reducible apply zat); (· exact rfl); (· exact rfl); (· simp [qed, hN, h1, zac]); try simp only [qeb, hN, seval, h1, zac])))
 have e : (if (32767 : Int) < (t.length : Int) then (32767 : Int) else (t.length : Int)) = ((t.take zbu).length : Int) := by
  simp only [List.length_take, zbu]; split <;> omega
 rw [e]
 have hle : (t.take zbu).length ≤ ct := by simp only [List.length_take]; omega
 have hmost : (t.take zbu).length ≤ 32767 := by simp only [List.length_take, zbu]; omega
 refine wl_sliceTo (e := 2) (oa := ot) (len := t.length) (n := (t.take zbu).length) (k := .i64) (cap := ct) (by kernel_rfl) (by simp [qed, hN, h1]) (by simp [qed, hN]) hle ?_
 (repeat (first | ((with_reducible refine zaw ?_ ?_ ?_ ?_); (· exact rfl); (· simp [qee, hN, h1, zac] <;> omega); (· kernel_rfl); try simp only [qeb, hN, seval, h1, zac]) | ((with_reducible refine qlS ?_ ?_ ?_); (· simp [qed, hN, h1, zac]); (· kernel_rfl); try simp only [qeb, hN, seval, h1, zac]) | ((with_reducible first | refine zaC ?_ ?_ ?_ | refine zaB ?_ ?_ ?_ | refine zaD ?_ ?_) <;> (first | (with_reducible refine zau ?_; try simp only [qeb, hN, seval, h1, zac]) | (simp [qed, hN, h1, zac] <;> omega))) | ((with_reducible refine zao ?_ ?_); (· simp [qed, hN, h1, zac]); try simp only [qeb, hN, seval, h1, zac]) | ((with_reducible refine zan ?_ ?_); (· simp [qed, hN, h1, zac]); try simp only [qeb, hN, seval, h1, zac]) | ((with_reducible apply zak); (· exact rfl); (· exact rfl); (· simp [qed, hN, h1, zac]); try simp only [qeb, hN, seval, h1, zac]) | ((with_reducible apply zas); (· exact rfl); (· exact rfl); (· simp [qed, hN, h1, zac]); try simp only [qeb, hN, seval, h1, zac]) | ((with_reducible apply zat); (· exact rfl); (· exact rfl); (· simp [qed, hN, h1, zac]); try simp only [qeb, hN, seval, h1, zac])))
 refine zaa (hK _ _ ?_); clear hK K
 obtain ⟨k, hkk⟩ : ∃ k, k = zbn fs 0 := ⟨_, rfl⟩
 have hun : zba fs t = zbm k (t.take zbu) [] := by rw [hkk]; rfl
 rw [← hkk] at hkn
 simp only [← hkk]
 clear hkk
 obtain ⟨ts, hts⟩ : ∃ ts, ts = t.take zbu := ⟨_, rfl⟩
 have htl' : ts = [] ∨ ∃ b o cs T, ot = some ⟨b, o, none⟩ ∧ G' b ∧ Rbk w b cs T ∧ TgL w G' ts (cs.drop o) := by
  rcases htl with rfl | ⟨b, o, cs, T, q1, q2, q3, q4⟩
  ·exact .inl (by simp [hts])
  ·exact .inr ⟨b, o, cs, T, q1, q2, q3, by rw [hts]; exact q4.take _⟩
 rw [← hts] at hmost hle hun ⊢
 clear htl e hts
 refine wp_range (n := ts.length) (fun i a' w' => ∃ acc v6, a'.tmps.size = 85 ∧ a'.defers = [] ∧ get a' 17 = .slice ot ts.length ct ∧ get a' 5 = .int .u32 k ∧ get a' 6 = v6 ∧ acc.length ≤ i ∧
   UkI w' w.heap.size (fun g => G' g ∧ g < w.heap.size) acc v6 ∧ zbm k (ts.drop i) acc = zbm k ts [] ∧ Chg (fun g => w.heap.size ≤ g) w w') 85 (by omega)
  (by simp only [qea, hN, seval]; try rfl) (by simp only [qea, hN, seval]) ⟨[], .slice none 0 0, by simp only [qea, hN, seval], by simp [zab, hD], by simp only [qea, hN, seval], by simp only [qea, hN, seval], by simp only [qea, hN, seval], Nat.le_refl _, ⟨[], World.ownsRow_nil _ _ _ _, trivial⟩, rfl, hc.mono fun _ _ h => h.elim⟩ ?_ ?_ (by decide) ?_ ?_
 ·rintro i a w ⟨_, _, h, _⟩; exact h
 ·rintro i a w t v ht ⟨acc, v6, k1, k2, k3, k4, k5, k6⟩
  rcases ht with rfl | rfl | rfl <;> exact ⟨acc, v6, by rw [zag]; exact k1, by rw [zab]; exact k2, by rw [zae (by decide)]; exact k3, by rw [zae (by decide)]; exact k4, by rw [zae (by decide)]; exact k5, k6⟩
 ·clear hN hD
  rintro i a1 w2 hi ⟨acc, v6, hN, hD, g17, g5, g6, hal, hU, hs, hc2⟩ g18 g19
  have hx : ts[i]? = some ts[i] := by simp [hi]
  generalize ts[i] = x at hx
  rcases htl' with rfl | ⟨b, o, cs, T, rfl, hGb, hb, htl⟩
  ·simp at hi
  obtain ⟨hcx, hlx⟩ := htl.get hx
  obtain ⟨ob, cb, hx1, hx2, hx3, hx4⟩ := hcx
  have hb2 : Rbk w2 b cs T := hb.chg hc2 (by have := hb.lt; omega)
  have hdrop : zbm k (ts.drop (i + 1)) (if x.1 < k then acc else unkIns x acc) = zbm k ts [] := by
   rw [← hs]
   have hd : ts.drop i = x :: ts.drop (i + 1) := by
    obtain ⟨hh, he⟩ := List.getElem?_eq_some_iff.1 hx
    rw [List.drop_eq_getElem_cons hh, he]
   rw [hd]; rfl
  refine qsr fun K hK => ?_
  refine zaT (b := b) (o := o) (k := .i64) (i := i) (n := 2) (len := ts.length) (cap := ct) (by kernel_rfl) (by simp [qed, hN, g17]) (by simp [qed, hN, g19]) hi ?_
  rw [List.length_drop] at hlx
  refine wl_loadAgg_r (b := b) (o := o + i * 2) (n := 2) (by kernel_rfl) (by kernel_rfl) (by simp [qed, hN]) hb2 (by omega) ?_
  rw [List.drop_drop] at hx1
  rw [hx1]
  refine wl_allocA (z := zaZ [.int .u32 0, .slice none 0 0]) (fun w => Tryz.zeroValue59 w) fun w3 hc3 hb3 hs3 => ?_
  refine zbh (b := w2.heap.size) (n := 2) (l' := [.int .u32 x.1, .slice ob x.2.length cb]) (by kernel_rfl) (by simp [qed, hN]) (by simp [qed, hN]; rfl) hb3 rfl (by intro y hy; simp only [List.mem_cons, List.not_mem_nil, or_false] at hy; rcases hy with rfl | rfl <;> rfl) rfl fun w4 hb4 hc4 => ?_
  refine zaa (hK _ _ ?_); clear hK K
  have hc24 : Chg (fun g => w2.heap.size ≤ g) w2 w4 := (hc3.mono fun _ _ h => h.elim).trans hc4 fun n hn h => by omega
  have hU4 : UkI w4 w.heap.size (fun g => G' g ∧ g < w.heap.size) acc v6 := hU.chg hc24 (fun _ _ h => by omega) (fun _ h => h.2) (fun _ h => by have := hc2.size; omega)
  have hc04 : Chg (fun g => w.heap.size ≤ g) w w4 := hc2.trans hc24 fun n hn h => by have := hc2.size; omega
  have hg8 : w.heap.size ≤ w2.heap.size := hc2.size
  have hlt6 : ∀ k, v6.ownBlock = some k → w.heap.size ≤ k ∧ k < w2.heap.size := by
   obtain ⟨cs0, q1, _⟩ := hU.row
   exact World.ownsRow.lt q1
  have hU3 := hU
  clear hU hc3 hb3 hs3
  generalize w2.heap.size = g8 at *
  have hg8l := hb4.lt
  have hpl := unkPos_le x.1 acc
  have hGlt : ∀ k, (G' k ∧ k < w.heap.size) → k < w.heap.size := fun _ h => h.2
  refine qsr fun K hK => ?_; (repeat ((with_reducible refine zaJ ?_ ?_ ?_); (· simp [qef, hN] <;> omega); (· kernel_rfl); try simp only [qec, hN, seval])); refine zaa (hK _ _ ?_); clear hK K
  refine qsk fun K1 hK1 => ?_
  refine wp_block ?_
  refine wp_loop (fun a' w' => ∃ j : Nat, a'.tmps.size = 85 ∧ a'.defers = [] ∧ get a' 17 = .slice (some ⟨b, o, none⟩) ts.length ct ∧ get a' 5 = .int .u32 k ∧ get a' 6 = v6 ∧ get a' 8 = .pointer (some ⟨g8, 0, none⟩) ∧ get a' 9 = .int .i64 j ∧ get a' 18 = .int .i64 ts.length ∧
   get a' 19 = .int .i64 i ∧ j ≤ unkPos x.1 acc ∧ Chg (fun _ => False) w4 w') (fun a' _ => acc.length - (intOf (get a' 9)).toNat) ⟨0, by simp only [qea, hN, seval], by simp [zab, hD], by simp only [qea, hN, seval, g17], by simp only [qea, hN, seval, g5], by simp only [qea, hN, seval, g6], by simp only [qea, hN, seval], by simp only [qea, hN, seval] <;> rfl, by simp only [qea, hN, seval, g18], by simp only [qea, hN, seval, g19], Nat.zero_le _, Chg.refl _ _⟩ ?_
  clear hN hD g17 g5 g6 g18 g19
  rintro a2 w5 ⟨j, hN, hD, g17, g5, g6, g8', g9, g18, g19, hj, hc5⟩
  obtain ⟨e2, o0, o1⟩ := tgFacts
  have hb5 := hb4.chg hc5 fun h => h
  have l8 := hb5.ld (i := 0) rfl
  have hU5 : UkI w5 w.heap.size (fun g => G' g ∧ g < w.heap.size) acc v6 := hU4.chg hc5 (fun _ _ _ h => h) hGlt (fun _ _ h => h)
  obtain ⟨oa6, cap6, hv6⟩ := hU5.len
  rw [hv6] at g6
  refine qsk fun K2 hK2 => ?_; refine qsk fun K3 hK3 => ?_
  refine wp_ord (fun _ => False) zaR (by kernel_rfl) ?_
  have next : ∀ a3 w6, a3.tmps.size = 85 → a3.defers = [] → get a3 17 = .slice (some ⟨b, o, none⟩) ts.length ct → get a3 5 = .int .u32 k → get a3 6 = v6 → get a3 8 = .pointer (some ⟨g8, 0, none⟩) → get a3 9 = .int .i64 j → get a3 18 = .int .i64 ts.length → get a3 19 = .int .i64 i →
    j = unkPos x.1 acc → Chg (fun _ => False) w4 w6 → K1 a3 w6 := by
   clear hN hD g17 g5 g6 g8' g9 g18 g19 hK2 hK3 K2 K3 hc5 hb5 l8 hU5
   intro a3 w6 hN hD g17 g5 g6 g8' g9 g18 g19 hjp hc6
   have hb6 := hb4.chg hc6 fun h => h
   have l8 := hb6.ld (i := 0) rfl
   have hU6 : UkI w6 w.heap.size (fun g => G' g ∧ g < w.heap.size) acc v6 := hU4.chg hc6 (fun _ _ _ h => h) hGlt (fun _ _ h => h)
   rw [hv6] at g6
   refine hK1 _ _ ?_
   clear hK1 K1
   refine qsk fun K4 hK4 => ?_; refine qsk fun K5 hK5 => ?_
   refine wp_ord (fun _ => False) zaR (by kernel_rfl) ?_
   by_cases hxk : x.1 < k
   ·have d2 : decide ((x.1 : Int) < (k : Int)) = true := decide_eq_true (by omega)
    rw [if_pos hxk] at hdrop
    (repeat (first | (refine wf_p rfl rfl ?_ ?_ ?_ ?_; (· first | exact rdX_no | (refine ⟨?_⟩; simp [rxb]; done)); (· simp [qef, hN, seval, g6, g9, g8', g5, l8, e2, o0, o1, d2, Nat.add_zero] <;> omega); (· kernel_rfl); try simp only [qec, hN, seval, g6, g9, g8', g5, l8, e2, o0, o1, d2, Nat.add_zero]) | (refine wf_pg rfl rfl rfl ?_ rfl ?_ ?_ ?_ ?_; (· simp [qec, hN, seval, g6, g9, g8', g5, l8, e2, o0, o1, d2, Nat.add_zero]; done); (· first | exact rdX_no | (refine ⟨?_⟩; simp [rxb]; done)); (· simp [qef, hN, seval, g6, g9, g8', g5, l8, e2, o0, o1, d2, Nat.add_zero] <;> omega); (· kernel_rfl); try simp only [qec, hN, seval, g6, g9, g8', g5, l8, e2, o0, o1, d2, Nat.add_zero]) | (refine wf_gno rfl rfl rfl ?_ ?_; (· simp [qec, hN, seval, g6, g9, g8', g5, l8, e2, o0, o1, d2, Nat.add_zero]; done); try simp only [qec, hN, seval, g6, g9, g8', g5, l8, e2, o0, o1, d2, Nat.add_zero]) | (refine wf_gnoU rfl rfl rfl ?_ ?_; (· simp [qec, hN, seval, g6, g9, g8', g5, l8, e2, o0, o1, d2, Nat.add_zero]; done); try simp only [qec, hN, seval, g6, g9, g8', g5, l8, e2, o0, o1, d2, Nat.add_zero])))
    refine wf_nil (by decide) ?_
    refine hK5 _ _ ?_
    refine wp_cond_true (by simp only [qec, hN, seval]) ?_
    refine wp_exit ?_
    refine ⟨rfl, ⟨acc, v6, by simp only [qea, hN, seval], by simp [zab, hD], by simp only [qec, hN, seval, g17], by simp only [qec, hN, seval, g5], by simp only [qec, hN, seval, g6, hv6], by omega, hU6.chg (Chg.drew (fun _ => False) _) (fun _ _ _ h => h) hGlt (fun _ _ h => h), hdrop, ((hc04.trans hc6 fun _ _ h => h.elim).trans (Chg.drew (fun _ => False) _) fun _ _ h => h.elim)⟩, by simp only [qec, hN, seval, g18], by simp only [qec, hN, seval, g19]⟩
   ·have d2 : decide ((x.1 : Int) < (k : Int)) = false := decide_eq_false (by omega)
    rw [if_neg hxk] at hdrop
    have ins : ∀ a5 w7, a5.tmps.size = 85 → a5.defers = [] → get a5 17 = .slice (some ⟨b, o, none⟩) ts.length ct → get a5 5 = .int .u32 k → get a5 6 = v6 → get a5 8 = .pointer (some ⟨g8, 0, none⟩) → get a5 9 = .int .i64 j → get a5 18 = .int .i64 ts.length → get a5 19 = .int .i64 i →
      (∀ y, acc[unkPos x.1 acc]? = some y → y.1 ≠ x.1) → Chg (fun _ => False) w4 w7 → K4 a5 w7 := by
     clear hN hD g17 g5 g6 g8' g9 g18 g19 hK5 K5 hc6 hb6 l8 hU6
     intro a5 w7 hN hD g17 g5 g6 g8' g9 g18 g19 hne hc7
     rw [unkIns_new x hne, ← hjp] at hdrop
     rw [← hjp] at hpl
     have hb7 := hb4.chg hc7 fun h => h
     have hU7 : UkI w7 w.heap.size (fun g => G' g ∧ g < w.heap.size) acc v6 := hU4.chg hc7 (fun _ _ _ h => h) hGlt (fun _ _ h => h)
     refine hK4 _ _ ?_
     clear hK4 K4
     refine qsr fun K hK => ?_
     (repeat ((first | ((with_reducible refine zaw ?_ ?_ ?_ ?_); (· rfl); (· simp [qee, hN, g6] <;> omega); (· kernel_rfl)) | ((with_reducible refine qlS ?_ ?_ ?_); (· simp [qed, hN, g6]); (· kernel_rfl))); try simp only [qeb, hN, seval, g6]))
     refine wl_build (l := [.int .u32 0, .slice none 0 0]) (by kernel_rfl) ?_
     refine wl_lit1 (e := tTg) (sz := 2) (z := zaZ [.int .u32 0, .slice none 0 0]) (l := [.int .u32 0, .slice none 0 0]) (by kernel_rfl) (by kernel_rfl) (fun w => Tryz.zeroValue59 w) (by simp [qed, hN]) rfl (by decide) (by decide) fun w8 hc8 hb8 hs8 => ?_
     have hU8 : UkI w8 w.heap.size (fun g => G' g ∧ g < w.heap.size) acc v6 := hU7.chg hc8 (fun _ _ _ h => h) hGlt (fun _ _ h => h)
     obtain ⟨cs0, q1, q2⟩ := hU8.row
     have hsz8 : w4.heap.size ≤ w8.heap.size := Nat.le_trans hc7.size hc8.size
     refine wl_appRow (e := tTg) (size := 2) (n := acc.length) (m := 1) (c := 1) (b := w7.heap.size) (news := [.int .u32 0, .slice none 0 0]) (v := v6) (xs := cs0) (base := w.heap.size) (by kernel_rfl) (by simp [qed, hN, g6]) q1 (by simp [qed, hN]) hb8 rfl (by intro u hu; simp only [List.mem_cons, List.not_mem_nil, or_false] at hu; rcases hu with rfl | rfl <;> rfl) (by decide) (by omega) (by have := hc04.size; omega) fun g cap8 w9 hrow hc9 hgo hgl => ?_
     (repeat ((first | ((with_reducible refine zaw ?_ ?_ ?_ ?_); (· rfl); (· simp [qee, hN] <;> omega); (· kernel_rfl)) | ((with_reducible refine qlS ?_ ?_ ?_); (· simp [qed, hN]); (· kernel_rfl))); try simp only [qeb, hN, seval]))
     refine zaa (hK _ _ ?_); clear hK K
     obtain ⟨g', cap2, cur, ev, hbg, hgh, hn9, hcm, hcs, htk⟩ := hrow.2.resolve_left (fun h => by cases h.1)
     simp only [Value.slice.injEq, Option.some.injEq, Addr.mk.injEq, true_and, and_true] at ev
     obtain ⟨rfl, rfl⟩ := ev
     have hlc0 : cs0.length = acc.length * 2 := q1.1
     have hgg8 : g ≠ g8 := by
      rcases hgo with h | h
      ·have := (hlt6 g h).2; omega
      ·omega
     obtain ⟨C, hC⟩ : ∃ C, C = cur.toList := ⟨_, rfl⟩
     have hbC : Blk w9 g C tTg := by rw [hC]; unfold Blk; simpa using hgh
     have hlC : C.length = cap8 * 2 := by rw [hC]; simpa using hcs
     rw [← hC] at htk
     have hCn : ∀ r, r < acc.length * 2 → C[r]? = cs0[r]? := by
      intro r hr
      have : (C.take ((acc.length + 1) * 2))[r]? = (cs0 ++ [.int .u32 0, .slice none 0 0])[r]? := by rw [htk]
      rw [List.getElem?_take_of_lt (by omega), List.getElem?_append_left (by omega)] at this
      exact this
     clear hgh hcs htk hC cur
     have hb9 : Blk w9 g8 [.int .u32 x.1, .slice ob x.2.length cb] _ := (hb7.chg hc8 fun h => h).chg hc9 fun h => by have := (hlt6 g8 h).2; omega
     have hall9 : Chg (fun g => w.heap.size ≤ g) w w9 := ((hc04.trans hc7 fun _ _ h => h.elim).trans hc8 fun _ _ h => h.elim).trans hc9 fun k _ h => (hlt6 k h).1
     have hx9 : zav w9 (fun g => G' g ∧ g < w.heap.size) ob x.2 := hx4.stay ⟨fun k hk hg => ⟨hall9.block k hk (by omega), hg, hk⟩⟩
     have q9 : TgL w9 (fun g => G' g ∧ g < w.heap.size) acc cs0 := q2.stay (zbl.of hc9 fun k hk _ h => by have := (hlt6 k h).1; have := hk.2; omega)
     have tcell : ∀ r z, acc[r]? = some z → ∃ o1 c1, (cs0.drop (r * 2)).take 2 = [.int .u32 z.1, .slice o1 z.2.length c1] := fun r z hz => by
      obtain ⟨⟨o1, c1, h1, _⟩, _⟩ := q2.get hz
      exact ⟨o1, c1, h1⟩
     refine qsk fun K6 hK6 => ?_
     refine qsr fun K hK => ?_
     (repeat ((first | ((with_reducible refine zaw ?_ ?_ ?_ ?_); (· rfl); (· simp [qee, hN] <;> omega); (· kernel_rfl)) | ((with_reducible refine qlS ?_ ?_ ?_); (· simp [qed, hN]); (· kernel_rfl))); try simp only [qeb, hN, seval]))
     have hn1 : IntKind.i64.wrap (((acc.length + 1 : Nat) : Int) - 1) = ((acc.length : Nat) : Int) := by rw [zbi _ (by omega)]; omega
     rw [hn1]
     refine zaa (hK _ _ ?_); clear hK K
     refine wp_block ?_
     refine wp_loop (fun a' w' => ∃ (q : Nat) (C' : List Value), a'.tmps.size = 85 ∧ a'.defers = [] ∧ get a' 17 = .slice (some ⟨b, o, none⟩) ts.length ct ∧ get a' 5 = .int .u32 k ∧ get a' 6 = .slice (some ⟨g, 0, none⟩) (acc.length + 1) cap8 ∧ get a' 8 = .pointer (some ⟨g8, 0, none⟩) ∧ get a' 9 = .int .i64 j ∧ get a' 18 = .int .i64 ts.length ∧
      get a' 19 = .int .i64 i ∧ get a' 10 = .int .i64 q ∧ j ≤ q ∧ q ≤ acc.length ∧ Blk w' g C' tTg ∧ C'.length = C.length ∧ (∀ r, r < q * 2 → C'[r]? = cs0[r]?) ∧ (∀ r, q * 2 ≤ r → r < acc.length * 2 → C'[r + 2]? = cs0[r]?) ∧ Chg (fun k => k = g) w9 w') (fun a' _ => (intOf (get a' 10)).toNat)
      ⟨acc.length, C, by simp only [qea, hN, seval], by simp [zab, hD], by simp only [qea, hN, seval, g17], by simp only [qea, hN, seval, g5], by simp only [qea, hN, seval], by simp only [qea, hN, seval, g8'], by simp only [qea, hN, seval, g9], by simp only [qea, hN, seval, g18], by simp only [qea, hN, seval, g19], by simp only [qea, hN, seval], by omega, Nat.le_refl _, hbC, rfl, hCn, fun r h1 h2 => by omega, Chg.refl _ _⟩ ?_
     clear hN hD g17 g5 g6 g8' g9 g18 g19
     rintro a6 w10 ⟨q, C', hN, hD, g17, g5, g6, g8', g9, g18, g19, g10, hjq, hqn, hbC', hlC', hlow, hhigh, hc10⟩
     refine qsk fun K hK => ?_; refine qsr fun K hK => ?_
     (repeat ((first | ((with_reducible refine zaw ?_ ?_ ?_ ?_); (· rfl); (· simp [qee, hN, g9, g10] <;> omega); (· kernel_rfl)) | ((with_reducible refine qlS ?_ ?_ ?_); (· simp [qed, hN, g9, g10]); (· kernel_rfl))); try simp only [qeb, hN, seval, g9, g10]))
     by_cases hjq2 : j < q
     ·have d3 : decide ((j : Int) < (q : Int)) = true := decide_eq_true (by omega)
      refine zaa (hK _ _ ?_); clear hK K
      refine wp_cond_true (by simp [qed, hN]; omega) ?_
      refine wp_skip (hK _ _ ?_)
      clear hK K
      refine qsk fun K hK => ?_; refine wp_block ?_
      refine zax ?_
      (repeat ((first | ((with_reducible refine zaw ?_ ?_ ?_ ?_); (· rfl); (· simp [qee, hN, g6, g10] <;> omega); (· kernel_rfl)) | ((with_reducible refine qlS ?_ ?_ ?_); (· simp [qed, hN, g6, g10]); (· kernel_rfl))); try simp only [qeb, hN, seval, g6, g10]))
      have hq1 : IntKind.i64.wrap ((q : Int) - 1) = ((q - 1 : Nat) : Int) := by rw [zbi _ (by omega)]; omega
      rw [hq1]
      obtain ⟨z, hz⟩ : ∃ z, acc[q - 1]? = some z := ⟨_, List.getElem?_eq_getElem (by omega)⟩
      obtain ⟨o1', c1', hcell⟩ := tcell _ z hz
      have hseg : (C'.drop (0 + (q - 1) * 2)).take 2 = [.int .u32 z.1, .slice o1' z.2.length c1'] := by
       rw [← hcell]
       exact seg_ext fun r hr => by rw [Nat.zero_add]; exact hlow _ (by omega)
      refine zaT (b := g) (o := 0) (k := .i64) (i := q - 1) (n := 2) (len := acc.length + 1) (cap := cap8) (by kernel_rfl) (by simp [qed, hN, g6]) (by simp [qed, hN]) (by omega) ?_
      refine za7 (b := g) (o := 0 + (q - 1) * 2) (n := 2) (by kernel_rfl) (by kernel_rfl) (by simp [qed, hN]) hbC' (by omega) ?_
      rw [hseg]
      refine zaT (b := g) (o := 0) (k := .i64) (i := q) (n := 2) (len := acc.length + 1) (cap := cap8) (by kernel_rfl) (by simp [qed, hN, g6]) (by simp [qed, hN, g10]) (by omega) ?_
      refine zbd (b := g) (o := 0 + q * 2) (n := 2) (v := .agg #[.int .u32 z.1, .slice o1' z.2.length c1']) (by kernel_rfl) (by simp [qed, hN]) (by simp [qed, hN]) hbC' rfl (by intro u hu; simp only [Value.cells, List.mem_cons, List.not_mem_nil, or_false] at hu; rcases hu with rfl | rfl <;> rfl) (by omega) fun w11 hb11 hc11 => ?_
      change Blk w11 g (zaE C' (0 + q * 2) [.int .u32 z.1, .slice o1' z.2.length c1']) _ at hb11
      rw [Nat.zero_add] at hb11
      refine zaa (hK _ _ ?_); clear hK K
      refine zax ?_
      (repeat ((first | ((with_reducible refine zaw ?_ ?_ ?_ ?_); (· rfl); (· simp [qee, hN, g10] <;> omega); (· kernel_rfl)) | ((with_reducible refine qlS ?_ ?_ ?_); (· simp [qed, hN, g10]); (· kernel_rfl))); try simp only [qeb, hN, seval, g10]))
      rw [hq1]
      have hsl : q * 2 + ([.int .u32 z.1, .slice o1' z.2.length c1'] : List Value).length ≤ C'.length := by simp only [List.length_cons, List.length_nil]; omega
      refine zaa ⟨⟨q - 1, _, by simp only [qea, hN, seval], by simp [zab, hD], by simp only [qea, hN, seval, g17], by simp only [qea, hN, seval, g5], by simp only [qea, hN, seval, g6], by simp only [qea, hN, seval, g8'], by simp only [qea, hN, seval, g9], by simp only [qea, hN, seval, g18], by simp only [qea, hN, seval, g19], by simp only [qea, hN, seval], by omega, by omega, hb11, (za4 hsl).trans hlC', fun r hr => ?_, fun r h1 h2 => ?_, hc10.trans hc11 fun _ _ h => h⟩, ?_⟩
      ·rw [splice_below hsl (by omega)]; exact hlow r (by omega)
      ·by_cases h3 : r < q * 2
       ·obtain ⟨d, rfl⟩ : ∃ d, r = (q - 1) * 2 + d := ⟨r - (q - 1) * 2, by omega⟩
        rw [show (q - 1) * 2 + d + 2 = q * 2 + d by omega, spl_mid hsl (by simp only [List.length_cons, List.length_nil]; omega), ← hcell, seg_get (by omega)]
       ·rw [splice_above hsl (by simp only [List.length_cons, List.length_nil]; omega)]
        exact hhigh r (by omega) h2
      ·simp only [qea, hN, seval, g10]
       simp only [intOf]
       omega
     ·have d3 : decide ((j : Int) < (q : Int)) = false := decide_eq_false (by omega)
      refine zaa (hK _ _ ?_); clear hK K
      refine wp_cond_false (by simp [qed, hN]; omega) ?_
      refine wp_exit ?_
      simp only [Exit.then, Exit.inBlock, if_pos]
      have ejq : q = j := by omega
      subst ejq
      refine hK6 _ _ ?_
      refine zax ?_
      have hne : w10 = w10 := rfl
      have hb10 : Blk w10 g8 [.int .u32 x.1, .slice ob x.2.length cb] _ := hb9.chg hc10 fun h => hgg8 h.symm
      (repeat ((first | ((with_reducible refine zaw ?_ ?_ ?_ ?_); (· rfl); (· simp [qee, hN, g6, g9] <;> omega); (· kernel_rfl)) | ((with_reducible refine qlS ?_ ?_ ?_); (· simp [qed, hN, g6, g9]); (· kernel_rfl))); try simp only [qeb, hN, seval, g6, g9]))
      refine za7 (b := g8) (o := 0) (n := 2) (by kernel_rfl) (by kernel_rfl) (by simp [qed, hN, g8']) hb10 (by simp) ?_
      rw [show (([.int .u32 x.1, .slice ob x.2.length cb] : List Value).drop 0).take 2 = [.int .u32 x.1, .slice ob x.2.length cb] from rfl]
      refine zaT (b := g) (o := 0) (k := .i64) (i := q) (n := 2) (len := acc.length + 1) (cap := cap8) (by kernel_rfl) (by simp [qed, hN, g6]) (by simp [qed, hN, g9]) (by omega) ?_
      refine zbd (b := g) (o := 0 + q * 2) (n := 2) (v := .agg #[.int .u32 x.1, .slice ob x.2.length cb]) (by kernel_rfl) (by simp [qed, hN]) (by simp [qed, hN]) hbC' rfl (by intro u hu; simp only [Value.cells, List.mem_cons, List.not_mem_nil, or_false] at hu; rcases hu with rfl | rfl <;> rfl) (by omega) fun w11 hb11 hc11 => ?_
      change Blk w11 g (zaE C' (0 + q * 2) [.int .u32 x.1, .slice ob x.2.length cb]) _ at hb11
      rw [Nat.zero_add] at hb11
      have hsl : q * 2 + ([.int .u32 x.1, .slice ob x.2.length cb] : List Value).length ≤ C'.length := by simp only [List.length_cons, List.length_nil]; omega
      have hl' : (acc.take q ++ x :: acc.drop q).length = acc.length + 1 := by simp; omega
      have hcg : Chg (fun k => k = g) w9 w11 := hc10.trans hc11 fun _ _ h => h
      have stG : zbl w9 w11 (fun g => G' g ∧ g < w.heap.size) (fun g => G' g ∧ g < w.heap.size) := zbl.of hcg fun k hk _ h => by have := hk.2; omega
      refine zaa ⟨⟨acc.take q ++ x :: acc.drop q, .slice (some ⟨g, 0, none⟩) (acc.length + 1) cap8, by simp only [qea, hN, seval], by simp [zab, hD], by simp only [qea, hN, seval, g17], by simp only [qea, hN, seval, g5], by simp only [qea, hN, seval, g6], by omega, ⟨(zaE C' (q * 2) [.int .u32 x.1, .slice ob x.2.length cb]).take ((acc.length + 1) * 2), ⟨?_, .inr ⟨g, cap8, (zaE C' (q * 2) [.int .u32 x.1, .slice ob x.2.length cb]).toArray, by rw [hl'], hbg, hb11, by rw [hl']; exact hn9, hcm, ?_, by rw [hl']⟩⟩, TgL.of fun r z hz => ?_⟩, hdrop, hall9.trans hcg fun k _ h => by rw [h]; exact hbg⟩, by simp only [qea, hN, seval, g18], by simp only [qea, hN, seval, g19]⟩
      ·rw [hl', List.length_take, za4 hsl]; omega
      ·rw [List.size_toArray, za4 hsl]; omega
      ·have hr : r < acc.length + 1 := by rw [← hl']; exact (List.getElem?_eq_some_iff.1 hz).1
       have seg : ∀ (D : List Value) (lo : Nat), (∀ d, d < 2 → (zaE C' (q * 2) [.int .u32 x.1, .slice ob x.2.length cb])[r * 2 + d]? = D[lo + d]?) → (((zaE C' (q * 2) [.int .u32 x.1, .slice ob x.2.length cb]).take ((acc.length + 1) * 2)).drop (r * 2)).take 2 = (D.drop lo).take 2 := fun D lo h => seg_ext fun d hd => by rw [List.getElem?_take_of_lt (by omega)]; exact h d hd
       by_cases h1 : r < q
       ·rw [List.getElem?_append_left (by rw [List.length_take]; omega), List.getElem?_take_of_lt h1] at hz
        rw [seg cs0 (r * 2) fun d hd => by rw [splice_below hsl (by omega)]; exact hlow _ (by omega)]
        exact ((q9.stay stG).get hz).1
       ·by_cases h2 : r = q
        ·subst h2
         rw [List.getElem?_append_right (by rw [List.length_take]; omega), List.length_take, Nat.min_eq_left hqn, Nat.sub_self] at hz
         simp only [List.getElem?_cons_zero, Option.some.injEq] at hz
         subst hz
         rw [seg [.int .u32 x.1, .slice ob x.2.length cb] 0 fun d hd => by rw [spl_mid hsl (by simp only [List.length_cons, List.length_nil]; omega), Nat.zero_add]]
         exact ⟨ob, cb, rfl, hx2, hx3, hx9.stay stG⟩
        ·obtain ⟨r', rfl⟩ : ∃ r', r = r' + 1 := ⟨r - 1, by omega⟩
         rw [List.getElem?_append_right (by rw [List.length_take]; omega), List.length_take, Nat.min_eq_left hqn, show r' + 1 - q = (r' - q) + 1 by omega, List.getElem?_cons_succ, List.getElem?_drop, show q + (r' - q) = r' by omega] at hz
         rw [seg cs0 (r' * 2) fun d hd => by rw [splice_above hsl (by simp only [List.length_cons, List.length_nil]; omega), show (r' + 1) * 2 + d = (r' * 2 + d) + 2 by omega]; exact hhigh _ (by omega) (by omega)]
         exact ((q9.stay stG).get hz).1
    by_cases hjn : j < acc.length
    ·obtain ⟨y, hy⟩ : ∃ y, acc[j]? = some y := ⟨_, List.getElem?_eq_getElem hjn⟩
     obtain ⟨g, cap', C, hv6', hg, hbC, hlC, htC⟩ := hU6.some (by omega)
     rw [hv6] at hv6'
     obtain ⟨rfl, rfl⟩ : oa6 = some ⟨g, 0, none⟩ ∧ cap6 = cap' := by simpa using hv6'
     have lC := hbC.ld (htC.key hy)
     have lC1 := lC.1
     have d1 : decide ((j : Int) < (acc.length : Int)) = true := decide_eq_true (by omega)
     (repeat (first | (refine wf_p rfl rfl ?_ ?_ ?_ ?_; (· first | exact rdX_no | (refine ⟨?_⟩; simp [rxb]; done)); (· simp [qef, hN, seval, g6, g9, g8', g5, lC, l8, e2, o0, o1, d1, d2, Nat.add_zero] <;> omega); (· kernel_rfl); try simp only [qec, hN, seval, g6, g9, g8', g5, lC, l8, e2, o0, o1, d1, d2, Nat.add_zero]) | (refine wf_pg rfl rfl rfl ?_ rfl ?_ ?_ ?_ ?_; (· simp [qec, hN, seval, g6, g9, g8', g5, lC, l8, e2, o0, o1, d1, d2, Nat.add_zero]; done); (· first | exact rdX_no | (refine ⟨?_⟩; simp [rxb]; done)); (· simp [qef, hN, seval, g6, g9, g8', g5, lC, l8, e2, o0, o1, d1, d2, Nat.add_zero] <;> omega); (· kernel_rfl); try simp only [qec, hN, seval, g6, g9, g8', g5, lC, l8, e2, o0, o1, d1, d2, Nat.add_zero]) | (refine wf_gno rfl rfl rfl ?_ ?_; (· simp [qec, hN, seval, g6, g9, g8', g5, lC, l8, e2, o0, o1, d1, d2, Nat.add_zero]; done); try simp only [qec, hN, seval, g6, g9, g8', g5, lC, l8, e2, o0, o1, d1, d2, Nat.add_zero]) | (refine wf_gnoU rfl rfl rfl ?_ ?_; (· simp [qec, hN, seval, g6, g9, g8', g5, lC, l8, e2, o0, o1, d1, d2, Nat.add_zero]; done); try simp only [qec, hN, seval, g6, g9, g8', g5, lC, l8, e2, o0, o1, d1, d2, Nat.add_zero])))
     refine wf_nil (by decide) ?_
     refine hK5 _ _ ?_
     by_cases heq : y.1 = x.1
     ·refine wp_cond_true (by simp only [qec, hN, seval]; erw [lC1]; simp [cmp2, heq]) ?_
      refine wp_exit ?_
      rw [unkIns_old x (by rw [← hjp]; exact hy) heq] at hdrop
      refine ⟨rfl, ⟨acc, v6, by simp only [qea, hN, seval], by simp [zab, hD], by simp only [qec, hN, seval, g17], by simp only [qec, hN, seval, g5], by simp only [qec, hN, seval, g6, hv6], by omega, hU6.chg (Chg.drew (fun _ => False) _) (fun _ _ _ h => h) hGlt (fun _ _ h => h), hdrop, ((hc04.trans hc6 fun _ _ h => h.elim).trans (Chg.drew (fun _ => False) _) fun _ _ h => h.elim)⟩, by simp only [qec, hN, seval, g18], by simp only [qec, hN, seval, g19]⟩
     ·refine wp_cond_false (by simp only [qec, hN, seval]; erw [lC1]; simp [cmp2]; omega) ?_
      refine wp_skip (ins _ _ (by simp only [qea, hN, seval]) (by simp [zab, hD]) (by simp only [qec, hN, seval, g17]) (by simp only [qec, hN, seval, g5]) (by simp only [qec, hN, seval, g6, hv6]) (by simp only [qec, hN, seval, g8']) (by simp only [qec, hN, seval, g9]) (by simp only [qec, hN, seval, g18]) (by simp only [qec, hN, seval, g19]) (fun z hz => ?_) (hc6.trans (Chg.drew _ _) fun _ _ h => h))
      rw [← hjp, hy] at hz
      cases hz
      exact heq
    ·have d1 : decide ((j : Int) < (acc.length : Int)) = false := decide_eq_false (by omega)
     (repeat (first | (refine wf_p rfl rfl ?_ ?_ ?_ ?_; (· first | exact rdX_no | (refine ⟨?_⟩; simp [rxb]; done)); (· simp [qef, hN, seval, g6, g9, g8', g5, l8, e2, o0, o1, d1, d2, Nat.add_zero] <;> omega); (· kernel_rfl); try simp only [qec, hN, seval, g6, g9, g8', g5, l8, e2, o0, o1, d1, d2, Nat.add_zero]) | (refine wf_pg rfl rfl rfl ?_ rfl ?_ ?_ ?_ ?_; (· simp [qec, hN, seval, g6, g9, g8', g5, l8, e2, o0, o1, d1, d2, Nat.add_zero]; done); (· first | exact rdX_no | (refine ⟨?_⟩; simp [rxb]; done)); (· simp [qef, hN, seval, g6, g9, g8', g5, l8, e2, o0, o1, d1, d2, Nat.add_zero] <;> omega); (· kernel_rfl); try simp only [qec, hN, seval, g6, g9, g8', g5, l8, e2, o0, o1, d1, d2, Nat.add_zero]) | (refine wf_gno rfl rfl rfl ?_ ?_; (· simp [qec, hN, seval, g6, g9, g8', g5, l8, e2, o0, o1, d1, d2, Nat.add_zero]; done); try simp only [qec, hN, seval, g6, g9, g8', g5, l8, e2, o0, o1, d1, d2, Nat.add_zero]) | (refine wf_gnoU rfl rfl rfl ?_ ?_; (· simp [qec, hN, seval, g6, g9, g8', g5, l8, e2, o0, o1, d1, d2, Nat.add_zero]; done); try simp only [qec, hN, seval, g6, g9, g8', g5, l8, e2, o0, o1, d1, d2, Nat.add_zero])))
     refine wf_nil (by decide) ?_
     refine hK5 _ _ ?_
     refine wp_cond_false (by simp only [qec, hN, seval]) ?_
     refine wp_skip (ins _ _ (by simp only [qea, hN, seval]) (by simp [zab, hD]) (by simp only [qec, hN, seval, g17]) (by simp only [qec, hN, seval, g5]) (by simp only [qec, hN, seval, g6, hv6]) (by simp only [qec, hN, seval, g8']) (by simp only [qec, hN, seval, g9]) (by simp only [qec, hN, seval, g18]) (by simp only [qec, hN, seval, g19]) (fun z hz => ?_) (hc6.trans (Chg.drew _ _) fun _ _ h => h))
     rw [List.getElem?_eq_none (by omega)] at hz
     cases hz
  by_cases hjn : j < acc.length
  ·obtain ⟨y, hy⟩ : ∃ y, acc[j]? = some y := ⟨_, List.getElem?_eq_getElem hjn⟩
   obtain ⟨g, cap', C, hv6', hg, hbC, hlC, htC⟩ := hU5.some (by omega)
   rw [hv6] at hv6'
   obtain ⟨rfl, rfl⟩ : oa6 = some ⟨g, 0, none⟩ ∧ cap6 = cap' := by simpa using hv6'
   have lC := hbC.ld (htC.key hy)
   have d1 : decide ((j : Int) < (acc.length : Int)) = true := decide_eq_true (by omega)
   (repeat (first | (refine wf_p rfl rfl ?_ ?_ ?_ ?_; (· first | exact rdX_no | (refine ⟨?_⟩; simp [rxb]; done)); (· simp [qef, hN, seval, g6, g9, g8', lC, l8, e2, o0, o1, d1, Nat.add_zero] <;> omega); (· kernel_rfl); try simp only [qec, hN, seval, g6, g9, g8', lC, l8, e2, o0, o1, d1, Nat.add_zero]) | (refine wf_pg rfl rfl rfl ?_ rfl ?_ ?_ ?_ ?_; (· simp [qec, hN, seval, g6, g9, g8', lC, l8, e2, o0, o1, d1, Nat.add_zero]; done); (· first | exact rdX_no | (refine ⟨?_⟩; simp [rxb]; done)); (· simp [qef, hN, seval, g6, g9, g8', lC, l8, e2, o0, o1, d1, Nat.add_zero] <;> omega); (· kernel_rfl); try simp only [qec, hN, seval, g6, g9, g8', lC, l8, e2, o0, o1, d1, Nat.add_zero]) | (refine wf_gno rfl rfl rfl ?_ ?_; (· simp [qec, hN, seval, g6, g9, g8', lC, l8, e2, o0, o1, d1, Nat.add_zero]; done); try simp only [qec, hN, seval, g6, g9, g8', lC, l8, e2, o0, o1, d1, Nat.add_zero]) | (refine wf_gnoU rfl rfl rfl ?_ ?_; (· simp [qec, hN, seval, g6, g9, g8', lC, l8, e2, o0, o1, d1, Nat.add_zero]; done); try simp only [qec, hN, seval, g6, g9, g8', lC, l8, e2, o0, o1, d1, Nat.add_zero])))
   refine wf_nil (by decide) ?_
   have lC1 := lC.1
   refine hK3 _ _ ?_
   by_cases hlt : y.1 < x.1
   ·refine wp_cond_true (by simp only [qec, hN, seval]; erw [lC1]; simp [cmp2, hlt]) ?_
    refine wp_skip (hK2 _ _ ?_)
    refine wp_block ?_
    have hjp : j + 1 ≤ unkPos x.1 acc := by
     by_cases he : j = unkPos x.1 acc
     ·rw [he] at hy; exact absurd hlt (unk_at hy)
     ·omega
    refine zax ?_; (repeat ((with_reducible refine zaJ ?_ ?_ ?_); (· simp [qef, hN, g9] <;> omega); (· kernel_rfl); try simp only [qec, hN, seval, g9])); refine zaa ⟨⟨j + 1, by simp only [qea, hN, seval], by simp [zab, hD], by simp only [qec, hN, seval, g17], by simp only [qec, hN, seval, g5], by simp only [qec, hN, seval, g6, hv6], by simp only [qec, hN, seval, g8'], by simp only [qec, hN, seval]; rw [zbi ((j : Int) + 1) (by omega)]; rfl, by simp only [qec, hN, seval, g18], by simp only [qec, hN, seval, g19], hjp, hc5.trans (Chg.drew _ _) fun _ _ h => h⟩, ?_⟩
    simp only [qec, hN, seval, g9]
    rw [zbi ((j : Int) + 1) (by omega)]
    simp only [intOf]
    omega
   ·refine wp_cond_false (by simp only [qec, hN, seval]; erw [lC1]; simp [cmp2, hlt]) ?_
    refine wp_exit ?_
    simp only [Exit.then, Exit.inBlock, if_pos]
    have hjp : j = unkPos x.1 acc := by
     by_cases he : j < unkPos x.1 acc
     ·obtain ⟨z, hz, hz2⟩ := unk_below he
      rw [hy] at hz; cases hz
      exact absurd hz2 hlt
     ·omega
    exact next _ _ (by simp only [qea, hN, seval]) (by simp [zab, hD]) (by simp only [qec, hN, seval, g17]) (by simp only [qec, hN, seval, g5]) (by simp only [qec, hN, seval, g6, hv6]) (by simp only [qec, hN, seval, g8']) (by simp only [qec, hN, seval, g9]) (by simp only [qec, hN, seval, g18]) (by simp only [qec, hN, seval, g19]) hjp (hc5.trans (Chg.drew _ _) fun _ _ h => h)
  ·have d1 : decide ((j : Int) < (acc.length : Int)) = false := decide_eq_false (by omega)
   (repeat (first | (refine wf_p rfl rfl ?_ ?_ ?_ ?_; (· first | exact rdX_no | (refine ⟨?_⟩; simp [rxb]; done)); (· simp [qef, hN, seval, g6, g9, g8', l8, e2, o0, o1, d1, Nat.add_zero] <;> omega); (· kernel_rfl); try simp only [qec, hN, seval, g6, g9, g8', l8, e2, o0, o1, d1, Nat.add_zero]) | (refine wf_pg rfl rfl rfl ?_ rfl ?_ ?_ ?_ ?_; (· simp [qec, hN, seval, g6, g9, g8', l8, e2, o0, o1, d1, Nat.add_zero]; done); (· first | exact rdX_no | (refine ⟨?_⟩; simp [rxb]; done)); (· simp [qef, hN, seval, g6, g9, g8', l8, e2, o0, o1, d1, Nat.add_zero] <;> omega); (· kernel_rfl); try simp only [qec, hN, seval, g6, g9, g8', l8, e2, o0, o1, d1, Nat.add_zero]) | (refine wf_gno rfl rfl rfl ?_ ?_; (· simp [qec, hN, seval, g6, g9, g8', l8, e2, o0, o1, d1, Nat.add_zero]; done); try simp only [qec, hN, seval, g6, g9, g8', l8, e2, o0, o1, d1, Nat.add_zero]) | (refine wf_gnoU rfl rfl rfl ?_ ?_; (· simp [qec, hN, seval, g6, g9, g8', l8, e2, o0, o1, d1, Nat.add_zero]; done); try simp only [qec, hN, seval, g6, g9, g8', l8, e2, o0, o1, d1, Nat.add_zero])))
   refine wf_nil (by decide) ?_
   refine hK3 _ _ ?_
   refine wp_cond_false (by simp only [qec, hN, seval]) ?_
   refine wp_exit ?_
   simp only [Exit.then, Exit.inBlock, if_pos]
   exact next _ _ (by simp only [qea, hN, seval]) (by simp [zab, hD]) (by simp only [qec, hN, seval, g17]) (by simp only [qec, hN, seval, g5]) (by simp only [qec, hN, seval, g6, hv6]) (by simp only [qec, hN, seval, g8']) (by simp only [qec, hN, seval, g9]) (by simp only [qec, hN, seval, g18]) (by simp only [qec, hN, seval, g19]) (by omega) (hc5.trans (Chg.drew _ _) fun _ _ h => h)
 ·clear hN hD
  rintro a1 w2 ⟨acc, v6, hN, hD, g17, g5, g6, hal, hU, hs, hc2⟩
  refine hK0 _ _ ?_; try clear hK0 K0
  (repeat (first | (with_reducible refine wp_seq_k (fun K hK => ?_)) | (with_reducible refine wp_block ?_) | ((with_reducible refine zax ?_); (repeat (first | ((with_reducible refine zaw ?_ ?_ ?_ ?_); (· exact rfl); (· simp [qee, hN, g6, zac] <;> omega); (· kernel_rfl); try simp only [qeb, hN, seval, g6, zac]) | ((with_reducible refine qlS ?_ ?_ ?_); (· simp [qed, hN, g6, zac]); (· kernel_rfl); try simp only [qeb, hN, seval, g6, zac]) | ((with_reducible first | refine zaC ?_ ?_ ?_ | refine zaB ?_ ?_ ?_ | refine zaD ?_ ?_) <;> (first | (with_reducible refine zau ?_; try simp only [qeb, hN, seval, g6, zac]) | (simp [qed, hN, g6, zac] <;> omega))) | ((with_reducible refine zao ?_ ?_); (· simp [qed, hN, g6, zac]); try simp only [qeb, hN, seval, g6, zac]) | ((with_reducible refine zan ?_ ?_); (· simp [qed, hN, g6, zac]); try simp only [qeb, hN, seval, g6, zac]) | ((with_reducible apply zak); (· exact rfl); (· exact rfl); (· simp [qed, hN, g6, zac]); try simp only [qeb, hN, seval, g6, zac]) | ((with_reducible apply zas); (· exact rfl); (· exact rfl); (· simp [qed, hN, g6, zac]); try simp only [qeb, hN, seval, g6, zac]) | ((with_reducible apply zat); (· exact rfl); (· exact rfl); (· simp [qed, hN, g6, zac]); try simp only [qeb, hN, seval, g6, zac]))); (refine zaa ?_)) | ((with_reducible refine wp_cond_true ?_ ?_); (· simp [qed, hN, g6])) | ((with_reducible refine wp_cond_false ?_ ?_); (· simp [qed, hN, g6])) | (with_reducible refine wp_skip ?_) | (refine hK _ _ ?_; clear hK K)))
  refine wp_ret ⟨by simp [zab, hD], ?_⟩; simp only [qea, hN, seval]
  rw [List.drop_length] at hs
  have hacc : acc = zbm k ts [] := hs
  rw [hun, ← hacc]
  refine ⟨?_, chg_own hc2⟩
  obtain ⟨cs', q1, q2⟩ := hU.row
  rcases q1.2 with ⟨rfl, hn⟩ | _
  ·have : acc = [] := List.eq_nil_of_length_eq_zero hn
   subst this
   exact ⟨none, 0, rfl, Nat.le_refl _, .inl rfl⟩
  ·by_cases h0 : 0 < acc.length
   ·obtain ⟨g, cap', C, rfl, k1, k2, k3, k4⟩ := hU.some h0
    obtain ⟨g', cap2, cur, ev, _, _, hn, _⟩ := q1.2.resolve_left (fun h => by cases h.1)
    simp only [Value.slice.injEq] at ev
    obtain ⟨_, _, rfl⟩ := ev
    exact ⟨some ⟨g, 0, none⟩, cap', rfl, hn, .inr ⟨g, 0, C, _, rfl, .inr k1, k2.r, k4.stay (zbl.sub fun k _ h => .inl h.1)⟩⟩
   ·have : acc = [] := List.eq_nil_of_length_eq_zero (by omega)
    subst this
    obtain ⟨oa', cap', rfl⟩ := hU.len
    exact ⟨oa', cap', rfl, Nat.zero_le _, .inl rfl⟩
end Go.Proofs.YtnjjfpgpookjlaaGreatDoor
