import Derived.Test.YtnjjfpgpookjlaaGreatDoorZU
import Derived.Laws.IdiomCopy
/-
What the proofs of the laws rest on, part ZG.
-/
namespace Go.Proofs.YtnjjfpgpookjlaaGreatDoor
set_option linter.all false
set_option maxRecDepth 10000
set_option maxHeartbeats 2000000
open Go.RowKit
mutual
def FOK : Fld → Prop
 | .mk _ _ _ _ _ _ _ sub => sub.length ≤ 1073741824 ∧ LOK sub
def LOK : List Fld → Prop
 | [] => True
 | f :: r => f.tag < 1073741824 ∧ FOK f ∧ LOK r
end
mutual
def TROK : Tr → Prop
 | .mk _ b _ l t => tagOK t ∧ b.length ≤ LIM ∧ l.length ≤ LIM ∧ t.length ≤ LIM ∧ TRLOK l
def TRLOK : List Tr → Prop
 | [] => True
 | x :: r => TROK x ∧ TRLOK r
end
theorem LOK.small : ∀ {fs : List Fld}, LOK fs → TagsSmall fs
 | [], _, f, hf => by cases hf
 | g :: r, h, f, hf => by
  unfold LOK at h
  rcases List.mem_cons.1 hf with rfl | hf
  ·exact h.1
  ·exact LOK.small h.2.2 f hf
theorem LOK.mem : ∀ {fs : List Fld}, LOK fs → ∀ f ∈ fs, FOK f
 | [], _, f, hf => by cases hf
 | g :: r, h, f, hf => by
  unfold LOK at h
  rcases List.mem_cons.1 hf with rfl | hf
  ·exact h.2.1
  ·exact LOK.mem h.2.2 f hf
theorem TRLOK.mem : ∀ {l : List Tr}, TRLOK l → ∀ x ∈ l, TROK x
 | [], _, f, hf => by cases hf
 | g :: r, h, f, hf => by
  unfold TRLOK at h
  rcases List.mem_cons.1 hf with rfl | hf
  ·exact h.1
  ·exact TRLOK.mem h.2 f hf
theorem TROK.parts {v : Tr} (h : TROK v) : tagOK v.t ∧ v.b.length ≤ LIM ∧ v.l.length ≤ LIM ∧ v.t.length ≤ LIM ∧ TRLOK v.l := by
 cases v; unfold TROK at h; exact h
theorem TROK.th {v : Tr} (h : TROK v) (h0 : tagOK []) (i : Nat) : TROK (v.th i) := by
 unfold Tr.th
 cases hx : v.l[i]? with
 | none => simp only [Option.getD_none, Tr.zero]; unfold TROK; exact ⟨h0, by simp, by simp, by simp, by unfold TRLOK; trivial⟩
 | some x => exact h.parts.2.2.2.2.mem x (List.mem_of_getElem? hx)
theorem sUsualL_iff : ∀ (fs : List Fld) (v : Tr) (i : Nat), sUsualL fs v i = true ↔ ∀ j f, fs[j]? = some f → sUsual f (v.th (i + j)) = true
 | [], v, i => by simp [sUsualL]
 | g :: r, v, i => by
  unfold sUsualL
  rw [Bool.and_eq_true, sUsualL_iff r v (i + 1)]
  constructor
  ·rintro ⟨h1, h2⟩ j f hj
   cases j with
   | zero => simp at hj; subst hj; exact h1
   | succ j => have := h2 j f (by simpa using hj); rw [show i + (j + 1) = i + 1 + j by omega]; exact this
  ·intro h
   refine ⟨h 0 g rfl, fun j f hj => ?_⟩
   have := h (j + 1) f (by simpa using hj)
   rw [show i + 1 + j = i + (j + 1) by omega]; exact this
theorem usual_num (k : K) (a b nl c df : Int) (of : K) (sub : List Fld) (v : Tr) (h : k ≠ .bool ∧ k ≠ .uuid ∧ k ≠ .text ∧ k ≠ .bytes ∧ k ≠ .struct ∧ k ≠ .list) :
  sUsual (.mk k a b nl c df of sub) v = decide (be (kWid k) v.n = be (kWid k) df) := by
 unfold sUsual
 cases k <;> simp at h ⊢
theorem Octs.later {w w1 w2 : World} {v : Value} {l : Bs} (h : Octs w v l w1) (c : Chg (fun _ => False) w1 w2) : Own eB w2 w.heap.size v l := h.1.chg c fun _ _ h => h
theorem usual_N : ∀ (N : Nat) (f : Fld) (v : Tr), SizeOf.sizeOf f < N → FOK f → TROK v → ∀ {w : World} {G G' : Nat → Prop} {cs ts : List Value}, SchF w G f cs → TrC w G' v ts →
  zaF Tryz.prog 36 #[zaZ cs, zaZ ts] w fun r w' => r = .bool (sUsual f v) ∧ Chg (fun _ => False) w w'
 | 0, _, _, hs, _, _, _, _, _, _, _, _, _ => absurd hs (Nat.not_lt_zero _)
 | N + 1, f, v, hsz, hfo, hvo, w, G, G', cs, ts, hfc, hv => by
  obtain ⟨_, c0, c1, c2, c3, c4, c5, c6, x7, c7, hx7⟩ := hfc.cells
  obtain ⟨_, t0, hn, ⟨ob, cb, t1, hcb, hbb⟩, t2, ⟨x3, t3, hx3⟩, ⟨x4, t4, hx4⟩⟩ := hv.cells
  refine zaq Tryz.func36 rfl rfl Tryz.ntmps36 (by simp) ?_
  intro a hN hD ha
  have h0 : get a 0 = zaZ cs := ha 0 _ rfl
  have h1 : get a 1 = zaZ ts := ha 1 _ rfl
  refine qsr fun K hK => ?_
  refine wl_boxA (by rw [zaf]; exact h0) fun w1 hc hb hs => ?_
  refine wl_boxA (l := ts) (by simp [qed, hN, h1]) fun w2 hc2 hb2 hs2 => ?_
  replace hb := hb.chg hc2 (fun h => h)
  replace hc := hc.trans hc2 (fun _ _ h => h)
  rw [hs] at hb2 ⊢
  clear hc2 hs hs2 w1
  (repeat ((first | ((with_reducible refine zaw ?_ ?_ ?_ ?_); (· rfl); (· simp [qee, hN] <;> omega); (· kernel_rfl)) | ((with_reducible refine qlS ?_ ?_ ?_); (· simp [qed, hN]); (· kernel_rfl))); try simp only [qeb, hN, seval]))
  refine zaa (hK _ _ ?_); clear hK K
  refine qsk fun K0 hK0 => ?_; refine qsr fun K1 hK1 => ?_
  with_reducible refine zay (b := w.heap.size) (off := 0) (n := 1) ?_ ?_ ?_; (· kernel_rfl); (· simp [qed, hN])
  with_reducible refine zaK (b := w.heap.size) (o := 0) ?_ ?_ hb c0 ?_; (· kernel_rfl); (· simp [qed, hN])
  refine zaa ?_
  refine hK1 _ _ ?_; try clear hK1 K1
  unfold kV
  obtain ⟨k, fr, to, nl, tg, df, of, sub⟩ := f
  simp only [Fld.kind, Fld.null, Fld.dflt, Fld.sub, Fld.of, Fld.from_, Fld.to, Fld.tag] at c0 c1 c2 c3 c4 c5 c6 c7 hx7 ⊢
  cases k
  case bool =>
   (repeat (first | (with_reducible refine wp_seq_k (fun K hK => ?_)) | (with_reducible refine wp_block ?_) | ((with_reducible refine zax ?_); (repeat (first | ((with_reducible refine zaw ?_ ?_ ?_ ?_); (· exact rfl); (· simp [qee, hN, zaI, zac] <;> omega); (· kernel_rfl); try simp only [qeb, hN, seval, zaI, zac]) | ((with_reducible refine qlS ?_ ?_ ?_); (· simp [qed, hN, zaI, zac]); (· kernel_rfl); try simp only [qeb, hN, seval, zaI, zac]) | ((with_reducible first | refine zaC ?_ ?_ ?_ | refine zaB ?_ ?_ ?_ | refine zaD ?_ ?_) <;> (first | (with_reducible refine zau ?_; try simp only [qeb, hN, seval, zaI, zac]) | (simp [qed, hN, zaI, zac] <;> omega))) | ((with_reducible refine zao ?_ ?_); (· simp [qed, hN, zaI, zac]); try simp only [qeb, hN, seval, zaI, zac]) | ((with_reducible refine zan ?_ ?_); (· simp [qed, hN, zaI, zac]); try simp only [qeb, hN, seval, zaI, zac]) | ((with_reducible apply zak); (· exact rfl); (· exact rfl); (· simp [qed, hN, zaI, zac]); try simp only [qeb, hN, seval, zaI, zac]) | ((with_reducible apply zas); (· exact rfl); (· exact rfl); (· simp [qed, hN, zaI, zac]); try simp only [qeb, hN, seval, zaI, zac]) | ((with_reducible apply zat); (· exact rfl); (· exact rfl); (· simp [qed, hN, zaI, zac]); try simp only [qeb, hN, seval, zaI, zac]))); (refine zaa ?_)) | ((with_reducible refine wp_cond_true ?_ ?_); (· simp [qed, hN, zaI])) | ((with_reducible refine wp_cond_false ?_ ?_); (· simp [qed, hN, zaI])) | (with_reducible refine wp_skip ?_) | (refine hK _ _ ?_; clear hK K)))
   refine zax ?_
   with_reducible refine zay (b := w.heap.size + 1) (off := 0) (n := 1) ?_ ?_ ?_; (· kernel_rfl); (· simp [qed, hN])
   with_reducible refine zaK (b := w.heap.size + 1) (o := 0) ?_ ?_ hb2 t0 ?_; (· kernel_rfl); (· simp [qed, hN])
   with_reducible refine wl_and1 ?_ ?_
   ·simp [qed, hN]
   simp only [qea, hN, seval, and1]
   with_reducible refine zay (b := w.heap.size) (off := 5) (n := 1) ?_ ?_ ?_; (· kernel_rfl); (· simp [qed, hN])
   with_reducible refine zaK (b := w.heap.size) (o := 5) ?_ ?_ hb c5 ?_; (· kernel_rfl); (· simp [qed, hN])
   (repeat ((first | ((with_reducible refine zaw ?_ ?_ ?_ ?_); (· rfl); (· simp [qee, hN] <;> omega); (· kernel_rfl)) | ((with_reducible refine qlS ?_ ?_ ?_); (· simp [qed, hN]); (· kernel_rfl))); try simp only [qeb, hN, seval]))
   refine zaa (hK _ _ ?_); clear hK K
   refine wp_ret ⟨by simp [zab, hD], ?_⟩; simp only [qea, hN, seval]
   refine ⟨?_, hc⟩
   unfold sUsual
   rfl
  case uuid =>
   (repeat (first | (with_reducible refine wp_seq_k (fun K hK => ?_)) | (with_reducible refine wp_block ?_) | ((with_reducible refine zax ?_); (repeat (first | ((with_reducible refine zaw ?_ ?_ ?_ ?_); (· exact rfl); (· simp [qee, hN, zaI, zac] <;> omega); (· kernel_rfl); try simp only [qeb, hN, seval, zaI, zac]) | ((with_reducible refine qlS ?_ ?_ ?_); (· simp [qed, hN, zaI, zac]); (· kernel_rfl); try simp only [qeb, hN, seval, zaI, zac]) | ((with_reducible first | refine zaC ?_ ?_ ?_ | refine zaB ?_ ?_ ?_ | refine zaD ?_ ?_) <;> (first | (with_reducible refine zau ?_; try simp only [qeb, hN, seval, zaI, zac]) | (simp [qed, hN, zaI, zac] <;> omega))) | ((with_reducible refine zao ?_ ?_); (· simp [qed, hN, zaI, zac]); try simp only [qeb, hN, seval, zaI, zac]) | ((with_reducible refine zan ?_ ?_); (· simp [qed, hN, zaI, zac]); try simp only [qeb, hN, seval, zaI, zac]) | ((with_reducible apply zak); (· exact rfl); (· exact rfl); (· simp [qed, hN, zaI, zac]); try simp only [qeb, hN, seval, zaI, zac]) | ((with_reducible apply zas); (· exact rfl); (· exact rfl); (· simp [qed, hN, zaI, zac]); try simp only [qeb, hN, seval, zaI, zac]) | ((with_reducible apply zat); (· exact rfl); (· exact rfl); (· simp [qed, hN, zaI, zac]); try simp only [qeb, hN, seval, zaI, zac]))); (refine zaa ?_)) | ((with_reducible refine wp_cond_true ?_ ?_); (· simp [qed, hN, zaI])) | ((with_reducible refine wp_cond_false ?_ ?_); (· simp [qed, hN, zaI])) | (with_reducible refine wp_skip ?_) | (refine hK _ _ ?_; clear hK K)))
   refine zax ?_
   with_reducible refine zay (b := w.heap.size + 1) (off := 1) (n := 1) ?_ ?_ ?_; (· kernel_rfl); (· simp [qed, hN])
   with_reducible refine zaK (b := w.heap.size + 1) (o := 1) ?_ ?_ hb2 t1 ?_; (· kernel_rfl); (· simp [qed, hN])
   (repeat ((first | ((with_reducible refine zaw ?_ ?_ ?_ ?_); (· rfl); (· simp [qee, hN] <;> omega); (· kernel_rfl)) | ((with_reducible refine qlS ?_ ?_ ?_); (· simp [qed, hN]); (· kernel_rfl))); try simp only [qeb, hN, seval]))
   refine zaa (hK _ _ ?_); clear hK K
   have hlim := hvo.parts.2.1
   unfold LIM at hlim
   refine wp_range (n := v.b.length) (fun i a' w' => a'.tmps.size = 91 ∧ a'.defers = [] ∧ get a' 22 = .slice ob v.b.length cb ∧ w' = w2 ∧ (v.b.take (min i 16)).all (· == 0) = true) 91 (by omega)
    (by simp only [qea, hN, seval]) (by simp only [qea, hN, seval]) ⟨by simp only [qea, hN, seval], by simp [zab, hD], by simp only [qea, hN, seval], rfl, by simp⟩ ?_ ?_ (by decide) ?_ ?_
   ·rintro i a w ⟨h, _⟩; exact h
   ·rintro i a w t v ht ⟨k1, k2, k3, k4⟩
    rcases ht with rfl | rfl | rfl <;> exact ⟨by rw [zag]; exact k1, by rw [zab]; exact k2, by rw [zae (by decide)]; exact k3, k4⟩
   ·clear hN hD
    rintro i a1 w1 hi ⟨hN, hD, g22, rfl, hall⟩ g1 g2
    obtain ⟨b, p, bc, T, rfl, _, hbk, hcell⟩ := hbb.row hi
    have hbk2 := hbk.chg hc (fun h => h)
    refine qsr fun K hK => ?_
    (repeat ((first | ((with_reducible refine zaw ?_ ?_ ?_ ?_); (· rfl); (· simp [qee, hN, g2] <;> omega); (· kernel_rfl)) | ((with_reducible refine qlS ?_ ?_ ?_); (· simp [qed, hN, g2]); (· kernel_rfl))); try simp only [qeb, hN, seval, g2]))
    refine zaT (b := b) (o := p) (k := .i64) (i := i) (n := 1) (len := v.b.length) (cap := cb) (by kernel_rfl) (by simp [qed, hN, g22]) (by simp [qed, hN, g2]) hi ?_
    refine wl_load_r (b := b) (o := p + i * 1) (by kernel_rfl) (by simp [qed, hN]) hbk2 (by rw [Nat.mul_one]; exact hcell) ?_
    (repeat ((first | ((with_reducible refine zaw ?_ ?_ ?_ ?_); (· rfl); (· simp [qee, hN] <;> omega); (· kernel_rfl)) | ((with_reducible refine qlS ?_ ?_ ?_); (· simp [qed, hN]); (· kernel_rfl))); try simp only [qeb, hN, seval]))
    refine zaa (hK _ _ ?_); clear hK K
    refine qsr fun K hK => ?_
    (repeat ((first | ((with_reducible refine zaw ?_ ?_ ?_ ?_); (· rfl); (· simp [qee, hN] <;> omega); (· kernel_rfl)) | ((with_reducible refine qlS ?_ ?_ ?_); (· simp [qed, hN]); (· kernel_rfl))); try simp only [qeb, hN, seval]))
    by_cases h16 : i < 16
    ·have e1 : (decide ((i : Int) < 16)) = true := decide_eq_true (by omega)
     (repeat (first | ((with_reducible refine zaw ?_ ?_ ?_ ?_); (· exact rfl); (· simp [qee, hN, e1, zaQ, zac] <;> omega); (· kernel_rfl); try simp only [qeb, hN, seval, e1, zaQ, zac]) | ((with_reducible refine qlS ?_ ?_ ?_); (· simp [qed, hN, e1, zaQ, zac]); (· kernel_rfl); try simp only [qeb, hN, seval, e1, zaQ, zac]) | ((with_reducible first | refine zaC ?_ ?_ ?_ | refine zaB ?_ ?_ ?_ | refine zaD ?_ ?_) <;> (first | (with_reducible refine zau ?_; try simp only [qeb, hN, seval, e1, zaQ, zac]) | (simp [qed, hN, e1, zaQ, zac] <;> omega))) | ((with_reducible refine zao ?_ ?_); (· simp [qed, hN, e1, zaQ, zac]); try simp only [qeb, hN, seval, e1, zaQ, zac]) | ((with_reducible refine zan ?_ ?_); (· simp [qed, hN, e1, zaQ, zac]); try simp only [qeb, hN, seval, e1, zaQ, zac]) | ((with_reducible apply zak); (· exact rfl); (· exact rfl); (· simp [qed, hN, e1, zaQ, zac]); try simp only [qeb, hN, seval, e1, zaQ, zac]) | ((with_reducible apply zas); (· exact rfl); (· exact rfl); (· simp [qed, hN, e1, zaQ, zac]); try simp only [qeb, hN, seval, e1, zaQ, zac]) | ((with_reducible apply zat); (· exact rfl); (· exact rfl); (· simp [qed, hN, e1, zaQ, zac]); try simp only [qeb, hN, seval, e1, zaQ, zac])))
     refine zaa (hK _ _ ?_)
     clear hK K
     by_cases hz : v.b[i] = 0
     ·refine wp_cond_false (by simp [qed, hN, hz]) ?_
      refine wp_skip ⟨⟨by simp only [qea, hN, seval], by simp [zab, hD], by simp only [qea, hN, seval, g22], rfl, ?_⟩, by simp only [qea, hN, seval, g1], by simp only [qea, hN, seval, g2]⟩
      rw [Nat.min_eq_left (by omega)] at hall ⊢
      rw [List.take_add_one, List.all_append, hall]
      simp [hi, hz]
     ·have hz2 : ((v.b[i].toNat : Int) != 0) = true := by
       have : ¬ (v.b[i].toNat = 0) := fun h => hz (UInt8.toNat_inj.1 h)
       simp; omega
      refine wp_cond_true (by simp [qed, hN, hz2]) ?_
      (repeat (first | (with_reducible refine wp_seq_k (fun K hK => ?_)) | (with_reducible refine wp_block ?_) | ((with_reducible refine zax ?_); (repeat (first | ((with_reducible refine zaw ?_ ?_ ?_ ?_); (· exact rfl); (· simp [qee, hN, zac] <;> omega); (· kernel_rfl); try simp only [qeb, hN, seval, zac]) | ((with_reducible refine qlS ?_ ?_ ?_); (· simp [qed, hN, zac]); (· kernel_rfl); try simp only [qeb, hN, seval, zac]) | ((with_reducible first | refine zaC ?_ ?_ ?_ | refine zaB ?_ ?_ ?_ | refine zaD ?_ ?_) <;> (first | (with_reducible refine zau ?_; try simp only [qeb, hN, seval, zac]) | (simp [qed, hN, zac] <;> omega))) | ((with_reducible refine zao ?_ ?_); (· simp [qed, hN, zac]); try simp only [qeb, hN, seval, zac]) | ((with_reducible refine zan ?_ ?_); (· simp [qed, hN, zac]); try simp only [qeb, hN, seval, zac]) | ((with_reducible apply zak); (· exact rfl); (· exact rfl); (· simp [qed, hN, zac]); try simp only [qeb, hN, seval, zac]) | ((with_reducible apply zas); (· exact rfl); (· exact rfl); (· simp [qed, hN, zac]); try simp only [qeb, hN, seval, zac]) | ((with_reducible apply zat); (· exact rfl); (· exact rfl); (· simp [qed, hN, zac]); try simp only [qeb, hN, seval, zac]))); (refine zaa ?_)) | ((with_reducible refine wp_cond_true ?_ ?_); (· simp [qed, hN])) | ((with_reducible refine wp_cond_false ?_ ?_); (· simp [qed, hN])) | (with_reducible refine wp_skip ?_) | (refine hK _ _ ?_; clear hK K)))
      refine wp_ret ⟨by simp [zab, hD], ?_⟩; simp only [qea, hN, seval]
      refine ⟨?_, hc⟩
      have : (v.b.take 16).all (· == 0) = false := by
       rw [List.all_eq_false]
       exact ⟨v.b[i], List.mem_of_getElem? (i := i) (by rw [List.getElem?_take_of_lt h16]; simp), by simpa using hz⟩
      unfold sUsual
      simp only [this]
    ·have e1 : (decide ((i : Int) < 16)) = false := decide_eq_false (by omega)
     (repeat (first | ((with_reducible refine zaw ?_ ?_ ?_ ?_); (· exact rfl); (· simp [qee, hN, e1, zac] <;> omega); (· kernel_rfl); try simp only [qeb, hN, seval, e1, zac]) | ((with_reducible refine qlS ?_ ?_ ?_); (· simp [qed, hN, e1, zac]); (· kernel_rfl); try simp only [qeb, hN, seval, e1, zac]) | ((with_reducible first | refine zaC ?_ ?_ ?_ | refine zaB ?_ ?_ ?_ | refine zaD ?_ ?_) <;> (first | (with_reducible refine zau ?_; try simp only [qeb, hN, seval, e1, zac]) | (simp [qed, hN, e1, zac] <;> omega))) | ((with_reducible refine zao ?_ ?_); (· simp [qed, hN, e1, zac]); try simp only [qeb, hN, seval, e1, zac]) | ((with_reducible refine zan ?_ ?_); (· simp [qed, hN, e1, zac]); try simp only [qeb, hN, seval, e1, zac]) | ((with_reducible apply zak); (· exact rfl); (· exact rfl); (· simp [qed, hN, e1, zac]); try simp only [qeb, hN, seval, e1, zac]) | ((with_reducible apply zas); (· exact rfl); (· exact rfl); (· simp [qed, hN, e1, zac]); try simp only [qeb, hN, seval, e1, zac]) | ((with_reducible apply zat); (· exact rfl); (· exact rfl); (· simp [qed, hN, e1, zac]); try simp only [qeb, hN, seval, e1, zac])))
     refine zaa (hK _ _ ?_)
     clear hK K
     refine wp_cond_false (by simp [qed, hN]) ?_
     refine wp_skip ⟨⟨by simp only [qea, hN, seval], by simp [zab, hD], by simp only [qea, hN, seval, g22], rfl, ?_⟩, by simp only [qea, hN, seval, g1], by simp only [qea, hN, seval, g2]⟩
     rw [Nat.min_eq_right (by omega)] at hall ⊢
     exact hall
   ·rintro a1 w1 ⟨hN, hD, g22, rfl, hall⟩
    refine hK _ _ ?_
    clear hK K
    (repeat (first | (with_reducible refine wp_seq_k (fun K hK => ?_)) | (with_reducible refine wp_block ?_) | ((with_reducible refine zax ?_); (repeat (first | ((with_reducible refine zaw ?_ ?_ ?_ ?_); (· exact rfl); (· simp [qee, hN, zac] <;> omega); (· kernel_rfl); try simp only [qeb, hN, seval, zac]) | ((with_reducible refine qlS ?_ ?_ ?_); (· simp [qed, hN, zac]); (· kernel_rfl); try simp only [qeb, hN, seval, zac]) | ((with_reducible first | refine zaC ?_ ?_ ?_ | refine zaB ?_ ?_ ?_ | refine zaD ?_ ?_) <;> (first | (with_reducible refine zau ?_; try simp only [qeb, hN, seval, zac]) | (simp [qed, hN, zac] <;> omega))) | ((with_reducible refine zao ?_ ?_); (· simp [qed, hN, zac]); try simp only [qeb, hN, seval, zac]) | ((with_reducible refine zan ?_ ?_); (· simp [qed, hN, zac]); try simp only [qeb, hN, seval, zac]) | ((with_reducible apply zak); (· exact rfl); (· exact rfl); (· simp [qed, hN, zac]); try simp only [qeb, hN, seval, zac]) | ((with_reducible apply zas); (· exact rfl); (· exact rfl); (· simp [qed, hN, zac]); try simp only [qeb, hN, seval, zac]) | ((with_reducible apply zat); (· exact rfl); (· exact rfl); (· simp [qed, hN, zac]); try simp only [qeb, hN, seval, zac]))); (refine zaa ?_)) | ((with_reducible refine wp_cond_true ?_ ?_); (· simp [qed, hN])) | ((with_reducible refine wp_cond_false ?_ ?_); (· simp [qed, hN])) | (with_reducible refine wp_skip ?_) | (refine hK _ _ ?_; clear hK K)))
    refine wp_ret ⟨by simp [zab, hD], ?_⟩; simp only [qea, hN, seval]
    refine ⟨?_, hc⟩
    have : v.b.take (min v.b.length 16) = v.b.take 16 := by
     by_cases h : v.b.length ≤ 16
     ·rw [Nat.min_eq_left h, List.take_length, List.take_of_length_le h]
     ·rw [Nat.min_eq_right (by omega)]
    rw [this] at hall
    unfold sUsual
    simp only [hall]
  case text | bytes =>
   (repeat (first | (with_reducible refine wp_seq_k (fun K hK => ?_)) | (with_reducible refine wp_block ?_) | ((with_reducible refine zax ?_); (repeat (first | ((with_reducible refine zaw ?_ ?_ ?_ ?_); (· exact rfl); (· simp [qee, hN, zaI, zac] <;> omega); (· kernel_rfl); try simp only [qeb, hN, seval, zaI, zac]) | ((with_reducible refine qlS ?_ ?_ ?_); (· simp [qed, hN, zaI, zac]); (· kernel_rfl); try simp only [qeb, hN, seval, zaI, zac]) | ((with_reducible first | refine zaC ?_ ?_ ?_ | refine zaB ?_ ?_ ?_ | refine zaD ?_ ?_) <;> (first | (with_reducible refine zau ?_; try simp only [qeb, hN, seval, zaI, zac]) | (simp [qed, hN, zaI, zac] <;> omega))) | ((with_reducible refine zao ?_ ?_); (· simp [qed, hN, zaI, zac]); try simp only [qeb, hN, seval, zaI, zac]) | ((with_reducible refine zan ?_ ?_); (· simp [qed, hN, zaI, zac]); try simp only [qeb, hN, seval, zaI, zac]) | ((with_reducible apply zak); (· exact rfl); (· exact rfl); (· simp [qed, hN, zaI, zac]); try simp only [qeb, hN, seval, zaI, zac]) | ((with_reducible apply zas); (· exact rfl); (· exact rfl); (· simp [qed, hN, zaI, zac]); try simp only [qeb, hN, seval, zaI, zac]) | ((with_reducible apply zat); (· exact rfl); (· exact rfl); (· simp [qed, hN, zaI, zac]); try simp only [qeb, hN, seval, zaI, zac]))); (refine zaa ?_)) | ((with_reducible refine wp_cond_true ?_ ?_); (· simp [qed, hN, zaI])) | ((with_reducible refine wp_cond_false ?_ ?_); (· simp [qed, hN, zaI])) | (with_reducible refine wp_skip ?_) | (refine hK _ _ ?_; clear hK K)))
   refine zax ?_
   with_reducible refine zay (b := w.heap.size) (off := 3) (n := 1) ?_ ?_ ?_; (· kernel_rfl); (· simp [qed, hN])
   with_reducible refine zaK (b := w.heap.size) (o := 3) ?_ ?_ hb c3 ?_; (· kernel_rfl); (· simp [qed, hN])
   (repeat ((first | ((with_reducible refine zaw ?_ ?_ ?_ ?_); (· rfl); (· simp [qee, hN] <;> omega); (· kernel_rfl)) | ((with_reducible refine qlS ?_ ?_ ?_); (· simp [qed, hN]); (· kernel_rfl))); try simp only [qeb, hN, seval]))
   by_cases hnl : 0 ≤ nl
   ·refine zaa (hK _ _ ?_)
    clear hK K
    refine wp_cond_true (by simp [qed, hN, hnl]) ?_
    refine qsr fun K hK => ?_
    with_reducible refine zay (b := w.heap.size + 1) (off := 2) (n := 1) ?_ ?_ ?_; (· kernel_rfl); (· simp [qed, hN])
    with_reducible refine zaK (b := w.heap.size + 1) (o := 2) ?_ ?_ hb2 t2 ?_; (· kernel_rfl); (· simp [qed, hN])
    (repeat ((first | ((with_reducible refine zaw ?_ ?_ ?_ ?_); (· rfl); (· simp [qee, hN] <;> omega); (· kernel_rfl)) | ((with_reducible refine qlS ?_ ?_ ?_); (· simp [qed, hN]); (· kernel_rfl))); try simp only [qeb, hN, seval]))
    refine zaa (hK _ _ ?_); clear hK K
    refine wp_ret ⟨by simp [zab, hD], ?_⟩; simp only [qea, hN, seval]
    refine ⟨?_, hc⟩
    unfold sUsual
    simp only [if_pos hnl]
   ·refine zaa (hK _ _ ?_)
    clear hK K
    refine wp_cond_false (by simp [qed, hN, hnl]) ?_
    (repeat (first | (with_reducible refine wp_seq_k (fun K hK => ?_)) | (with_reducible refine wp_block ?_) | ((with_reducible refine zax ?_); (repeat (first | ((with_reducible refine zaw ?_ ?_ ?_ ?_); (· exact rfl); (· simp [qee, hN, zac] <;> omega); (· kernel_rfl); try simp only [qeb, hN, seval, zac]) | ((with_reducible refine qlS ?_ ?_ ?_); (· simp [qed, hN, zac]); (· kernel_rfl); try simp only [qeb, hN, seval, zac]) | ((with_reducible first | refine zaC ?_ ?_ ?_ | refine zaB ?_ ?_ ?_ | refine zaD ?_ ?_) <;> (first | (with_reducible refine zau ?_; try simp only [qeb, hN, seval, zac]) | (simp [qed, hN, zac] <;> omega))) | ((with_reducible refine zao ?_ ?_); (· simp [qed, hN, zac]); try simp only [qeb, hN, seval, zac]) | ((with_reducible refine zan ?_ ?_); (· simp [qed, hN, zac]); try simp only [qeb, hN, seval, zac]) | ((with_reducible apply zak); (· exact rfl); (· exact rfl); (· simp [qed, hN, zac]); try simp only [qeb, hN, seval, zac]) | ((with_reducible apply zas); (· exact rfl); (· exact rfl); (· simp [qed, hN, zac]); try simp only [qeb, hN, seval, zac]) | ((with_reducible apply zat); (· exact rfl); (· exact rfl); (· simp [qed, hN, zac]); try simp only [qeb, hN, seval, zac]))); (refine zaa ?_)) | ((with_reducible refine wp_cond_true ?_ ?_); (· simp [qed, hN])) | ((with_reducible refine wp_cond_false ?_ ?_); (· simp [qed, hN])) | (with_reducible refine wp_skip ?_) | (refine hK _ _ ?_; clear hK K)))
    refine zax ?_
    with_reducible refine zay (b := w.heap.size + 1) (off := 1) (n := 1) ?_ ?_ ?_; (· kernel_rfl); (· simp [qed, hN])
    with_reducible refine zaK (b := w.heap.size + 1) (o := 1) ?_ ?_ hb2 t1 ?_; (· kernel_rfl); (· simp [qed, hN])
    (repeat ((first | ((with_reducible refine zaw ?_ ?_ ?_ ?_); (· rfl); (· simp [qee, hN] <;> omega); (· kernel_rfl)) | ((with_reducible refine qlS ?_ ?_ ?_); (· simp [qed, hN]); (· kernel_rfl))); try simp only [qeb, hN, seval]))
    refine zaa (hK _ _ ?_); clear hK K
    refine wp_ret ⟨by simp [zab, hD], ?_⟩; simp only [qea, hN, seval]
    refine ⟨?_, hc⟩
    unfold sUsual
    simp only [if_neg hnl]
    cases v.b <;> simp
    omega
  case list =>
   (repeat (first | (with_reducible refine wp_seq_k (fun K hK => ?_)) | (with_reducible refine wp_block ?_) | ((with_reducible refine zax ?_); (repeat (first | ((with_reducible refine zaw ?_ ?_ ?_ ?_); (· exact rfl); (· simp [qee, hN, zaI, zac] <;> omega); (· kernel_rfl); try simp only [qeb, hN, seval, zaI, zac]) | ((with_reducible refine qlS ?_ ?_ ?_); (· simp [qed, hN, zaI, zac]); (· kernel_rfl); try simp only [qeb, hN, seval, zaI, zac]) | ((with_reducible first | refine zaC ?_ ?_ ?_ | refine zaB ?_ ?_ ?_ | refine zaD ?_ ?_) <;> (first | (with_reducible refine zau ?_; try simp only [qeb, hN, seval, zaI, zac]) | (simp [qed, hN, zaI, zac] <;> omega))) | ((with_reducible refine zao ?_ ?_); (· simp [qed, hN, zaI, zac]); try simp only [qeb, hN, seval, zaI, zac]) | ((with_reducible refine zan ?_ ?_); (· simp [qed, hN, zaI, zac]); try simp only [qeb, hN, seval, zaI, zac]) | ((with_reducible apply zak); (· exact rfl); (· exact rfl); (· simp [qed, hN, zaI, zac]); try simp only [qeb, hN, seval, zaI, zac]) | ((with_reducible apply zas); (· exact rfl); (· exact rfl); (· simp [qed, hN, zaI, zac]); try simp only [qeb, hN, seval, zaI, zac]) | ((with_reducible apply zat); (· exact rfl); (· exact rfl); (· simp [qed, hN, zaI, zac]); try simp only [qeb, hN, seval, zaI, zac]))); (refine zaa ?_)) | ((with_reducible refine wp_cond_true ?_ ?_); (· simp [qed, hN, zaI])) | ((with_reducible refine wp_cond_false ?_ ?_); (· simp [qed, hN, zaI])) | (with_reducible refine wp_skip ?_) | (refine hK _ _ ?_; clear hK K)))
   refine zax ?_
   with_reducible refine zay (b := w.heap.size + 1) (off := 3) (n := 1) ?_ ?_ ?_; (· kernel_rfl); (· simp [qed, hN])
   obtain ⟨ol, cl, rfl, hcl, hl⟩ := hx3
   with_reducible refine zaK (b := w.heap.size + 1) (o := 3) ?_ ?_ hb2 t3 ?_; (· kernel_rfl); (· simp [qed, hN])
   (repeat ((first | ((with_reducible refine zaw ?_ ?_ ?_ ?_); (· rfl); (· simp [qee, hN] <;> omega); (· kernel_rfl)) | ((with_reducible refine qlS ?_ ?_ ?_); (· simp [qed, hN]); (· kernel_rfl))); try simp only [qeb, hN, seval]))
   refine zaa (hK _ _ ?_); clear hK K
   refine wp_ret ⟨by simp [zab, hD], ?_⟩; simp only [qea, hN, seval]
   refine ⟨?_, hc⟩
   unfold sUsual
   cases v.l <;> simp
   omega
  case struct =>
   (repeat (first | (with_reducible refine wp_seq_k (fun K hK => ?_)) | (with_reducible refine wp_block ?_) | ((with_reducible refine zax ?_); (repeat (first | ((with_reducible refine zaw ?_ ?_ ?_ ?_); (· exact rfl); (· simp [qee, hN, zaI, zac] <;> omega); (· kernel_rfl); try simp only [qeb, hN, seval, zaI, zac]) | ((with_reducible refine qlS ?_ ?_ ?_); (· simp [qed, hN, zaI, zac]); (· kernel_rfl); try simp only [qeb, hN, seval, zaI, zac]) | ((with_reducible first | refine zaC ?_ ?_ ?_ | refine zaB ?_ ?_ ?_ | refine zaD ?_ ?_) <;> (first | (with_reducible refine zau ?_; try simp only [qeb, hN, seval, zaI, zac]) | (simp [qed, hN, zaI, zac] <;> omega))) | ((with_reducible refine zao ?_ ?_); (· simp [qed, hN, zaI, zac]); try simp only [qeb, hN, seval, zaI, zac]) | ((with_reducible refine zan ?_ ?_); (· simp [qed, hN, zaI, zac]); try simp only [qeb, hN, seval, zaI, zac]) | ((with_reducible apply zak); (· exact rfl); (· exact rfl); (· simp [qed, hN, zaI, zac]); try simp only [qeb, hN, seval, zaI, zac]) | ((with_reducible apply zas); (· exact rfl); (· exact rfl); (· simp [qed, hN, zaI, zac]); try simp only [qeb, hN, seval, zaI, zac]) | ((with_reducible apply zat); (· exact rfl); (· exact rfl); (· simp [qed, hN, zaI, zac]); try simp only [qeb, hN, seval, zaI, zac]))); (refine zaa ?_)) | ((with_reducible refine wp_cond_true ?_ ?_); (· simp [qed, hN, zaI])) | ((with_reducible refine wp_cond_false ?_ ?_); (· simp [qed, hN, zaI])) | (with_reducible refine wp_skip ?_) | (refine hK _ _ ?_; clear hK K)))
   refine zax ?_
   with_reducible refine zay (b := w.heap.size) (off := 7) (n := 1) ?_ ?_ ?_; (· kernel_rfl); (· simp [qed, hN])
   with_reducible refine zaK (b := w.heap.size) (o := 7) ?_ ?_ hb c7 ?_; (· kernel_rfl); (· simp [qed, hN])
   unfold FOK at hfo
   obtain ⟨hlen, hlo⟩ := hfo
   have hx7' := hx7
   obtain ⟨oa, cap, rfl, _⟩ := hx7
   (repeat ((first | ((with_reducible refine zaw ?_ ?_ ?_ ?_); (· rfl); (· simp [qee, hN] <;> omega); (· kernel_rfl)) | ((with_reducible refine qlS ?_ ?_ ?_); (· simp [qed, hN]); (· kernel_rfl))); try simp only [qeb, hN, seval]))
   refine zaa (hK _ _ ?_); clear hK K
   refine wp_range (n := sub.length) (fun i a' w' => a'.tmps.size = 91 ∧ a'.defers = [] ∧ get a' 57 = .slice oa sub.length cap ∧ get a' 2 = .pointer (some ⟨w.heap.size, 0, none⟩) ∧ get a' 3 = .pointer (some ⟨w.heap.size + 1, 0, none⟩) ∧ Chg (fun _ => False) w2 w' ∧ ∀ j f, j < i → sub[j]? = some f → sUsual f (v.th j) = true) 91 (by omega)
    (by simp only [qea, hN, seval]) (by simp only [qea, hN, seval]) ⟨by simp only [qea, hN, seval], by simp [zab, hD], by simp only [qea, hN, seval], by simp only [qea, hN, seval], by simp only [qea, hN, seval], Chg.refl _ _, fun _ _ h => by omega⟩ ?_ ?_ (by decide) ?_ ?_
   ·rintro i a w ⟨h, _⟩; exact h
   ·rintro i a w t v ht ⟨k1, k2, k3, k4, k5, k6⟩
    rcases ht with rfl | rfl | rfl <;> exact ⟨by rw [zag]; exact k1, by rw [zab]; exact k2, by rw [zae (by decide)]; exact k3, by rw [zae (by decide)]; exact k4, by rw [zae (by decide)]; exact k5, k6⟩
   ·clear hN hD
    rintro i a1 w1 hi ⟨hN, hD, g57, g2', g3, hch, hall⟩ g1 g2
    have hcw : Chg (fun _ => False) w w1 := hc.trans hch fun _ _ h => h
    have hf : sub[i]? = some sub[i] := by simp [hi]
    obtain ⟨b, fc, T, rfl, _, hG, hbk, hfc', hl⟩ := hx7'.get hf
    have hmem : sub[i] ∈ sub := List.getElem_mem hi
    have hbk1 := hbk.chg hcw (fun h => h)
    refine qsr fun K hK => ?_
    (repeat ((first | ((with_reducible refine zaw ?_ ?_ ?_ ?_); (· rfl); (· simp [qee, hN, g2] <;> omega); (· kernel_rfl)) | ((with_reducible refine qlS ?_ ?_ ?_); (· simp [qed, hN, g2]); (· kernel_rfl))); try simp only [qeb, hN, seval, g2]))
    refine zaT (b := b) (o := 0) (k := .i64) (i := i) (n := 8) (len := sub.length) (cap := cap) (by kernel_rfl) (by simp [qed, hN, g57]) (by simp [qed, hN, g2]) hi ?_
    refine za7 (b := b) (o := 0 + i * 8) (n := 8) (by kernel_rfl) (by kernel_rfl) (by simp [qed, hN]) hbk1 (by omega) ?_
    rw [Nat.zero_add]
    refine wl_allocA (z := zaZ zFld) (fun w => Tryz.zeroValue48 w) fun w3 hc3 hb3 hs3 => ?_
    (repeat ((first | ((with_reducible refine zaw ?_ ?_ ?_ ?_); (· rfl); (· simp [qee, hN] <;> omega); (· kernel_rfl)) | ((with_reducible refine qlS ?_ ?_ ?_); (· simp [qed, hN]); (· kernel_rfl))); try simp only [qeb, hN, seval]))
    refine zbh (b := w1.heap.size) (n := 8) (l' := ((fc.drop (i * 8)).take 8)) (by kernel_rfl) (by simp [qed, hN]) (by simp [qed, hN]; rfl) hb3 hfc'.len hfc'.one rfl fun w4 hb4 hc4 => ?_
    have hch4 : Chg (fun _ => False) w1 w4 := hc3.trans hc4 fun n hn h => by omega
    have hch5 : Chg (fun _ => False) w2 w4 := hch.trans hch4 fun _ _ h => h
    refine zaa (hK _ _ ?_); clear hK K
    refine qsk fun K5 hK5 => ?_
    have hbx := hb2.chg hch5 (fun h => h)
    refine wp_sched (fun w' => Chg (fun _ => False) w4 w') [(true, 0), (true, 1), (true, 2), (false, 3), (false, 4), (true, 5)] zaR (by kernel_rfl) (by kernel_rfl) (Chg.drew _ _) ?_
    refine ws_loadAgg (b := w1.heap.size) (o := 0) (n := 8) (by kernel_rfl) (by kernel_rfl) rfl (by simp [qed, hN]) (fun w' hw => hb4.chg hw (fun h => h)) (by rw [hfc'.len]; omega) ?_
    refine ws_loadAgg (b := w.heap.size + 1) (o := 0) (n := 5) (by kernel_rfl) (by kernel_rfl) rfl (by simp [qed, hN, g3]) (fun w' hw => hbx.chg hw (fun h => h)) (by rw [hv.len]; omega) ?_
    refine zbf rfl ?_
    simp only [qea, hN, seval, g2]
    have e5 : (ts.drop 0).take 5 = ts := by rw [List.drop_zero, List.take_of_length_le (by rw [hv.len]; omega)]
    have e8 : (((fc.drop (i * 8)).take 8).drop 0).take 8 = (fc.drop (i * 8)).take 8 := by rw [List.drop_zero, List.take_of_length_le (by rw [hfc'.len]; omega)]
    rw [e5, e8]
    have hcw4 : Chg (fun _ => False) w w4.drew := (hcw.trans hch4 fun _ _ h => h).trans (Chg.drew _ _) fun _ _ h => h
    refine ws_call (fun args w => Tryz.call34 args w) rfl (by simp [qea, hN, seval]; exact at_c v i (hv.stay (zbl.none hcw4))) ?_
    rintro _ w5 ⟨⟨rs, rfl, hrs⟩, hc5⟩
    have hk5 : Chg (fun _ => False) w4 w5 := (Chg.drew _ _).trans hc5 fun _ _ h => h
    refine ⟨hk5, ?_⟩
    have hcw5 : Chg (fun _ => False) w w5 := hcw4.trans hc5 fun _ _ h => h
    have : SizeOf.sizeOf sub[i] < SizeOf.sizeOf (Fld.mk .struct fr to nl tg df of sub) := by
     have := List.sizeOf_lt_of_mem hmem
     simp; omega
    refine ws_call (fun args w => Tryz.call36 args w) rfl (by simp [qea, hN, seval]; exact usual_N N sub[i] (v.th i) (by omega) (hlo.mem _ hmem) (hvo.th tagOK_nil i) (hfc'.stay (zbl.none hcw5)) hrs) ?_
    rintro _ w6 ⟨rfl, hc6⟩
    have hk6 : Chg (fun _ => False) w4 w6 := hk5.trans hc6 fun _ _ h => h
    refine ⟨hk6, ?_⟩
    refine ws_not rfl (by simp [qed, hN]) ?_
    simp only [qea, hN, seval]
    refine ws_nil ?_
    refine hK5 _ _ ?_; try clear hK5 K5
    have hch6 : Chg (fun _ => False) w2 w6 := hch5.trans hk6 fun _ _ h => h
    cases hu : sUsual sub[i] (v.th i) with
    | true =>
     refine wp_cond_false (by simp [qed, hN, hu]) ?_
     refine wp_skip ⟨⟨by simp only [qea, hN, seval], by simp [zab, hD], by simp only [qea, hN, seval, g57], by simp only [qea, hN, seval, g2'], by simp only [qea, hN, seval, g3], hch6, ?_⟩, by simp only [qea, hN, seval, g1], by simp only [qea, hN, seval, g2]⟩
     intro j f hj hjf
     by_cases hji : j = i
     ·subst hji
      rw [hf] at hjf
      simp at hjf
      rw [← hjf]; exact hu
     ·exact hall j f (by omega) hjf
    | false =>
     refine wp_cond_true (by simp [qed, hN, hu]) ?_
     (repeat (first | (with_reducible refine wp_seq_k (fun K hK => ?_)) | (with_reducible refine wp_block ?_) | ((with_reducible refine zax ?_); (repeat (first | ((with_reducible refine zaw ?_ ?_ ?_ ?_); (· exact rfl); (· simp [qee, hN, zac] <;> omega); (· kernel_rfl); try simp only [qeb, hN, seval, zac]) | ((with_reducible refine qlS ?_ ?_ ?_); (· simp [qed, hN, zac]); (· kernel_rfl); try simp only [qeb, hN, seval, zac]) | ((with_reducible first | refine zaC ?_ ?_ ?_ | refine zaB ?_ ?_ ?_ | refine zaD ?_ ?_) <;> (first | (with_reducible refine zau ?_; try simp only [qeb, hN, seval, zac]) | (simp [qed, hN, zac] <;> omega))) | ((with_reducible refine zao ?_ ?_); (· simp [qed, hN, zac]); try simp only [qeb, hN, seval, zac]) | ((with_reducible refine zan ?_ ?_); (· simp [qed, hN, zac]); try simp only [qeb, hN, seval, zac]) | ((with_reducible apply zak); (· exact rfl); (· exact rfl); (· simp [qed, hN, zac]); try simp only [qeb, hN, seval, zac]) | ((with_reducible apply zas); (· exact rfl); (· exact rfl); (· simp [qed, hN, zac]); try simp only [qeb, hN, seval, zac]) | ((with_reducible apply zat); (· exact rfl); (· exact rfl); (· simp [qed, hN, zac]); try simp only [qeb, hN, seval, zac]))); (refine zaa ?_)) | ((with_reducible refine wp_cond_true ?_ ?_); (· simp [qed, hN])) | ((with_reducible refine wp_cond_false ?_ ?_); (· simp [qed, hN])) | (with_reducible refine wp_skip ?_) | (refine hK _ _ ?_; clear hK K)))
     refine wp_ret ⟨by simp [zab, hD], ?_⟩; simp only [qea, hN, seval]
     refine ⟨?_, hc.trans hch6 fun _ _ h => h⟩
     have : sUsualL sub v 0 = false := by
      cases h : sUsualL sub v 0 with
      | false => rfl
      | true =>
       have := (sUsualL_iff sub v 0).1 h i _ hf
       rw [Nat.zero_add, hu] at this
       cases this
     unfold sUsual
     simp [this]
   ·clear hN hD
    rintro a1 w1 ⟨hN, hD, g57, g2', g3, hch, hall⟩
    refine hK _ _ ?_
    clear hK K
    have hb' := hb.chg hch (fun h => h)
    have hb2' := hb2.chg hch (fun h => h)
    have hcw : Chg (fun _ => False) w w1 := hc.trans hch fun _ _ h => h
    refine qsr fun K hK => ?_
    with_reducible refine zay (b := w.heap.size) (off := 7) (n := 1) ?_ ?_ ?_
    ·kernel_rfl
    ·simp [qed, hN, g2']
    with_reducible refine zaK (b := w.heap.size) (o := 7) ?_ ?_ hb' c7 ?_; (· kernel_rfl); (· simp [qed, hN])
    with_reducible refine zay (b := w.heap.size + 1) (off := 4) (n := 1) ?_ ?_ ?_
    ·kernel_rfl
    ·simp [qed, hN, g3]
    with_reducible refine zaK (b := w.heap.size + 1) (o := 4) ?_ ?_ hb2' t4 ?_; (· kernel_rfl); (· simp [qed, hN])
    refine zaz (fun args w => Tryz.call38 args w) (by simp [qea, hN, seval]; exact unknown_c sub v.t hlen hlo.small hvo.parts.1 (hx7'.stay (zbl.none hcw)) (hx4.stay (zbl.none hcw))) ?_
    rintro v2 w5 ⟨⟨ot, ct, rfl, _, _⟩, hc5⟩
    (repeat ((first | ((with_reducible refine zaw ?_ ?_ ?_ ?_); (· rfl); (· simp [qee, hN] <;> omega); (· kernel_rfl)) | ((with_reducible refine qlS ?_ ?_ ?_); (· simp [qed, hN]); (· kernel_rfl))); try simp only [qeb, hN, seval]))
    refine zaa (hK _ _ ?_); clear hK K
    refine wp_ret ⟨by simp [zab, hD], ?_⟩; simp only [qea, hN, seval]
    refine ⟨?_, hcw.trans hc5 fun _ _ h => h⟩
    have : sUsualL sub v 0 = true := (sUsualL_iff sub v 0).2 fun j f hj => by rw [Nat.zero_add]; exact hall j f (List.getElem?_eq_some_iff.1 hj).1 hj
    unfold sUsual
    simp only [this, Bool.true_and]
    cases zba sub v.t <;> simp
    omega
  all_goals
   (repeat (first | (with_reducible refine wp_seq_k (fun K hK => ?_)) | (with_reducible refine wp_block ?_) | ((with_reducible refine zax ?_); (repeat (first | ((with_reducible refine zaw ?_ ?_ ?_ ?_); (· exact rfl); (· simp [qee, hN, zaI, zac] <;> omega); (· kernel_rfl); try simp only [qeb, hN, seval, zaI, zac]) | ((with_reducible refine qlS ?_ ?_ ?_); (· simp [qed, hN, zaI, zac]); (· kernel_rfl); try simp only [qeb, hN, seval, zaI, zac]) | ((with_reducible first | refine zaC ?_ ?_ ?_ | refine zaB ?_ ?_ ?_ | refine zaD ?_ ?_) <;> (first | (with_reducible refine zau ?_; try simp only [qeb, hN, seval, zaI, zac]) | (simp [qed, hN, zaI, zac] <;> omega))) | ((with_reducible refine zao ?_ ?_); (· simp [qed, hN, zaI, zac]); try simp only [qeb, hN, seval, zaI, zac]) | ((with_reducible refine zan ?_ ?_); (· simp [qed, hN, zaI, zac]); try simp only [qeb, hN, seval, zaI, zac]) | ((with_reducible apply zak); (· exact rfl); (· exact rfl); (· simp [qed, hN, zaI, zac]); try simp only [qeb, hN, seval, zaI, zac]) | ((with_reducible apply zas); (· exact rfl); (· exact rfl); (· simp [qed, hN, zaI, zac]); try simp only [qeb, hN, seval, zaI, zac]) | ((with_reducible apply zat); (· exact rfl); (· exact rfl); (· simp [qed, hN, zaI, zac]); try simp only [qeb, hN, seval, zaI, zac]))); (refine zaa ?_)) | ((with_reducible refine wp_cond_true ?_ ?_); (· simp [qed, hN, zaI])) | ((with_reducible refine wp_cond_false ?_ ?_); (· simp [qed, hN, zaI])) | (with_reducible refine wp_skip ?_) | (refine hK _ _ ?_; clear hK K)))
   refine hK0 _ _ ?_; try clear hK0 K0
   refine qsk fun K hK => ?_
   refine wp_sched (fun w' => Chg (fun _ => False) w2 w') [(true, 0), (true, 1), (true, 2), (true, 3), (true, 6), (true, 7), (true, 8), (true, 9), (false, 4), (false, 5), (false, 10), (false, 11), (false, 12), (true, 13)] zaR (by kernel_rfl) (by kernel_rfl) (Chg.drew _ _) ?_
   refine zbp (b := w.heap.size + 1) (o := 0) (off := 0) (n := 1) (by kernel_rfl) rfl (by simp [qed, hN]) ?_
   refine ws_load (b := w.heap.size + 1) (o := 0 + 0) (by kernel_rfl) rfl (by simp [qed, hN]) (fun w' hw => hb2.chg hw (fun h => h)) t0 ?_
   refine zbp (b := w.heap.size) (o := 0) (off := 0) (n := 1) (by kernel_rfl) rfl (by simp [qed, hN]) ?_
   refine ws_load (b := w.heap.size) (o := 0 + 0) (by kernel_rfl) rfl (by simp [qed, hN]) (fun w' hw => hb.chg hw (fun h => h)) c0 ?_
   refine zbp (b := w.heap.size) (o := 0) (off := 5) (n := 1) (by kernel_rfl) rfl (by simp [qed, hN]) ?_
   refine ws_load (b := w.heap.size) (o := 0 + 5) (by kernel_rfl) rfl (by simp [qed, hN]) (fun w' hw => hb.chg hw (fun h => h)) c5 ?_
   refine zbp (b := w.heap.size) (o := 0) (off := 0) (n := 1) (by kernel_rfl) rfl (by simp [qed, hN]) ?_
   refine ws_load (b := w.heap.size) (o := 0 + 0) (by kernel_rfl) rfl (by simp [qed, hN]) (fun w' hw => hb.chg hw (fun h => h)) c0 ?_
   refine ws_call (fun args w => Tryz.call65 args w) rfl (by simp [qea, hN, seval]; exact width_c _ (by decide)) ?_
   rintro _ w3 ⟨rfl, rfl⟩
   refine ⟨Chg.drew _ _, ?_⟩
   refine ws_call (fun args w => Tryz.call64 args w) rfl (by simp [qea, hN, seval]; exact Fixed_c v.n _ (by decide)) ?_
   rintro v1 w3 ho1
   have hk1 : Chg (fun _ => False) w2 w3 := (Chg.drew _ _).trans ho1.2 fun _ _ h => h
   refine ⟨hk1, ?_⟩
   refine ws_call (fun args w => Tryz.call65 args w) rfl (by simp [qea, hN, seval]; exact width_c _ (by decide)) ?_
   rintro _ w4 ⟨rfl, rfl⟩
   refine ⟨hk1, ?_⟩
   refine ws_call (fun args w => Tryz.call64 args w) rfl (by simp [qea, hN, seval]; exact Fixed_c df _ (by decide)) ?_
   rintro v2 w4 ho2
   have hk2 : Chg (fun _ => False) w2 w4 := hk1.trans ho2.2 fun _ _ h => h
   refine ⟨hk2, ?_⟩
   obtain ⟨oa1, cap1, e1, _, hb1'⟩ := (ho1.later ho2.2).bytes
   obtain ⟨oa2, cap2, e2, _, hb2'⟩ := ho2.1.bytes
   refine ws_call (fun args w => Tryz.call11 args w) rfl (by simp [qea, hN, seval]; rw [e1, e2]; exact Same_c _ _ hb1' hb2' (by simp [be_length, LIM, kWid])) ?_
   rintro _ w5 ⟨rfl, hc5⟩
   have hk3 : Chg (fun _ => False) w2 w5 := hk2.trans hc5 fun _ _ h => h
   refine ⟨hk3, ?_⟩
   refine ws_assign rfl ?_
   simp only [qea, hN, seval]
   refine ws_nil ?_
   refine hK _ _ ?_
   clear hK K
   refine wp_ret ⟨by simp [zab, hD], ?_⟩; simp only [qea, hN, seval]
   refine ⟨?_, hc.trans hk3 fun _ _ h => h⟩
   rw [usual_num _ _ _ _ _ _ _ _ _ (by decide)]
theorem usual_c (f : Fld) (v : Tr) (hfo : FOK f) (hvo : TROK v) {w : World} {G G' : Nat → Prop} {cs ts : List Value} (hfc : SchF w G f cs) (hv : TrC w G' v ts) :
  zaF Tryz.prog 36 #[zaZ cs, zaZ ts] w fun r w' => r = .bool (sUsual f v) ∧ Chg (fun _ => False) w w' := usual_N _ f v (Nat.lt_succ_self _) hfo hvo hfc hv
set_option maxHeartbeats 600000
def SLIM : Nat := 2147483648
def PartC (fs : List Fld) : Prop := ∀ (ver : Int) (flex : Bool) (v : Tr), TROK v → (sPart flex ver fs v).length ≤ SLIM → ∀ {w : World} {G G' : Nat → Prop} {oa : Option Addr} {cap : Nat} {ts : List Value},
 SchS w G fs (.slice oa fs.length cap) → TrC w G' v ts → zaF Tryz.prog 18 #[.slice oa fs.length cap, .int .i64 ver, .bool flex, zaZ ts] w fun r w' => Octs w r (sPart flex ver fs v) w'
theorem own16 {w : World} {base g : Nat} {l : Bs} (hl : l.length = 16) (hb : base ≤ g) (h : Blk w g (l.map zaQ) eB) : Own eB w base (.slice (some ⟨g, 0, none⟩) 16 16) l :=
 ⟨by simp, .inr ⟨g, 16, (l.map zaQ).toArray, by rw [hl], hb, h, by omega, by unfold maxLen; omega, by simp [hl], by rw [List.take_of_length_le (by simp)]⟩⟩
theorem run_make16 (w : World) : ∃ w', (Instr.makeSlice 22 (.int .i64 16) (.int .i64 16)).run Tryz.prog w = .ok (.slice (some ⟨w.heap.size, 0, none⟩) 16 16) w' ∧ Chg (fun _ => False) w w' ∧ Blk w' w.heap.size ((List.replicate 16 (0 : UInt8)).map zaQ) eB := by
 obtain ⟨i, hi, h1, h2, h3⟩ := bT.hi
 obtain ⟨w', hr, ho, hg⟩ := run_makeSlice_full (P := Tryz.prog) w w.heap.size 22 eB i (.int .u8 0) 1 bT.ht hi h3 h1 .i64 .i64 16 (by omega) (by rw [h2]; omega) (by unfold maxLen; omega) (Nat.le_refl _)
 refine ⟨w', hr, (Chg.ofGrown hg).mono fun k _ hk => by simp at hk, ?_⟩
 rcases ho.2 with ⟨h, _⟩ | ⟨g, cap, cur, h, _, hgg, _, _, hcs, ht⟩
 ·cases h
 ·simp only [Value.slice.injEq, Option.some.injEq, Addr.mk.injEq] at h
  obtain ⟨⟨rfl, _, _⟩, _, rfl⟩ := h
  have e : cur.toList = (List.replicate 16 (0 : UInt8)).map zaQ := by
   rw [List.take_of_length_le (by rw [Array.length_toList, hcs]; omega)] at ht
   rw [ht]; kernel_rfl
  unfold Blk
  rw [hgg, ← e]
theorem run_copy16 {w : World} {g : Nat} {G : Nat → Prop} {ob : Option Addr} {b : Bs} {cb : Nat} (ty : TypeId) (hb : Blk w g ((List.replicate 16 (0 : UInt8)).map zaQ) eB) (hs : zav w G ob b) :
  ∃ v w', (Builtin.copy_ #[22, 22] ty #[.slice (some ⟨g, 0, none⟩) 16 16, .slice ob b.length cb]).run Tryz.prog w = .ok v w' ∧ Chg (fun k => k = g) w w' ∧
   Blk w' g (((b ++ List.replicate 16 0).take 16).map zaQ) eB := by
 obtain ⟨i, hi, h1, h2, h3⟩ := bT.hi
 have hsz : ((Tryz.prog).info? eB).map (·.size) = some 1 := by rw [hi]; simp [h1]
 cases ob with
 | none =>
  have : b = [] := by
   rcases hs with h | ⟨_, _, _, _, h, _⟩
   ·exact h
   ·cases h
  subst this
  exact ⟨_, w, run_copy_none w _ _ ty eB _ _ 16 16 0 cb bT.ht hsz (by simp), Chg.refl _ _, hb⟩
 | some ad =>
  have hlen : ((b.take 16).map zaQ).length = Nat.min b.length 16 := by simp [Nat.min_comm]
  have hr := run_copy_row (P := Tryz.prog) w 22 22 ty eB g 0 16 16 ad b.length cb ((List.replicate 16 (0 : UInt8)).map zaQ).toArray eB ((b.take 16).map zaQ) bT.ht hsz hb hlen
   ((hs.take 16).cells) (by simp; omega) (byteV_one _)
  refine ⟨_, _, hr, Chg.setRow _ _ _ fun _ => rfl, ?_⟩
  have := hb.setRow ((List.take 0 ((List.replicate 16 (0 : UInt8)).map zaQ).toArray.toList ++ (b.take 16).map zaQ ++ List.drop (0 + ((b.take 16).map zaQ).length) ((List.replicate 16 (0 : UInt8)).map zaQ).toArray.toList).toArray)
  have e : (List.take 0 ((List.replicate 16 (0 : UInt8)).map zaQ).toArray.toList ++ (b.take 16).map zaQ ++ List.drop (0 + ((b.take 16).map zaQ).length) ((List.replicate 16 (0 : UInt8)).map zaQ).toArray.toList) = ((b ++ List.replicate 16 0).take 16).map zaQ := by
   simp only [List.take_zero, List.nil_append, Nat.zero_add, List.length_map, List.length_take, ← List.map_drop, ← List.map_append, List.take_append, List.drop_replicate, List.take_replicate]
   congr 3
   omega
  rw [e] at this
  rw [e]
  exact this
theorem uvarAux_len : ∀ (k n : Nat), (za2 k n).length ≤ k + 1
 | 0, _ => by simp [za2]
 | k + 1, n => by
  unfold za2
  split
  ·simp
  ·have := uvarAux_len k (n / 128)
   simp; omega
theorem uvar_len (n : Nat) : (zbo n).length ≤ 5 := uvarAux_len 4 n
theorem value_c (k : K) (sub : List Fld) (nul : Bool) (ver : Int) (flex : Bool) (v : Tr) (hk : k ≠ .list) (hp : k = .struct → PartC sub) (hvo : TROK v) (hlim : (sVal k sub flex nul ver v).length ≤ SLIM)
  {w : World} {G G' : Nat → Prop} {oa : Option Addr} {cap : Nat} {ts : List Value} (hsub : SchS w G sub (.slice oa sub.length cap)) (hv : TrC w G' v ts) :
  zaF Tryz.prog 63 #[kV k, .slice oa sub.length cap, .bool nul, .int .i64 ver, .bool flex, zaZ ts] w fun r w' => Octs w r (sVal k sub flex nul ver v) w' := by
 obtain ⟨_, t0, hn, ⟨ob, cb, t1, hcb, hbb⟩, t2, ⟨x3, t3, hx3⟩, ⟨x4, t4, hx4⟩⟩ := hv.cells
 refine zaq Tryz.func63 rfl rfl Tryz.ntmps63 (by simp) ?_
 intro a hN hD ha
 have h0 : get a 0 = kV k := ha 0 _ rfl
 have h1 : get a 1 = .slice oa sub.length cap := ha 1 _ rfl
 have h2 : get a 2 = .bool nul := ha 2 _ rfl
 have h3 : get a 3 = .int .i64 ver := ha 3 _ rfl
 have h4 : get a 4 = .bool flex := ha 4 _ rfl
 have h5 : get a 5 = zaZ ts := ha 5 _ rfl
 unfold kV at h0
 refine qsr fun K hK => ?_
 refine wl_boxA (l := ts) (by simp [qed, hN, h5]) fun w1 hc hb hs => ?_
 (repeat ((first | ((with_reducible refine zaw ?_ ?_ ?_ ?_); (· rfl); (· simp [qee, hN] <;> omega); (· kernel_rfl)) | ((with_reducible refine qlS ?_ ?_ ?_); (· simp [qed, hN]); (· kernel_rfl))); try simp only [qeb, hN, seval]))
 refine zaa (hK _ _ ?_); clear hK K
 refine qsk fun K0 hK0 => ?_
 cases k
 case list => exact absurd rfl hk
 case bool =>
  (repeat (first | (with_reducible refine wp_seq_k (fun K hK => ?_)) | (with_reducible refine wp_block ?_) | ((with_reducible refine zax ?_); (repeat (first | ((with_reducible refine zaw ?_ ?_ ?_ ?_); (· exact rfl); (· simp [qee, hN, h0, zaI, zac] <;> omega); (· kernel_rfl); try simp only [qeb, hN, seval, h0, zaI, zac]) | ((with_reducible refine qlS ?_ ?_ ?_); (· simp [qed, hN, h0, zaI, zac]); (· kernel_rfl); try simp only [qeb, hN, seval, h0, zaI, zac]) | ((with_reducible first | refine zaC ?_ ?_ ?_ | refine zaB ?_ ?_ ?_ | refine zaD ?_ ?_) <;> (first | (with_reducible refine zau ?_; try simp only [qeb, hN, seval, h0, zaI, zac]) | (simp [qed, hN, h0, zaI, zac] <;> omega))) | ((with_reducible refine zao ?_ ?_); (· simp [qed, hN, h0, zaI, zac]); try simp only [qeb, hN, seval, h0, zaI, zac]) | ((with_reducible refine zan ?_ ?_); (· simp [qed, hN, h0, zaI, zac]); try simp only [qeb, hN, seval, h0, zaI, zac]) | ((with_reducible apply zak); (· exact rfl); (· exact rfl); (· simp [qed, hN, h0, zaI, zac]); try simp only [qeb, hN, seval, h0, zaI, zac]) | ((with_reducible apply zas); (· exact rfl); (· exact rfl); (· simp [qed, hN, h0, zaI, zac]); try simp only [qeb, hN, seval, h0, zaI, zac]) | ((with_reducible apply zat); (· exact rfl); (· exact rfl); (· simp [qed, hN, h0, zaI, zac]); try simp only [qeb, hN, seval, h0, zaI, zac]))); (refine zaa ?_)) | ((with_reducible refine wp_cond_true ?_ ?_); (· simp [qed, hN, h0, zaI])) | ((with_reducible refine wp_cond_false ?_ ?_); (· simp [qed, hN, h0, zaI])) | (with_reducible refine wp_skip ?_) | (refine hK _ _ ?_; clear hK K)))
  refine zax ?_
  with_reducible refine zay (b := w.heap.size) (off := 0) (n := 1) ?_ ?_ ?_; (· kernel_rfl); (· simp [qed, hN])
  with_reducible refine zaK (b := w.heap.size) (o := 0) ?_ ?_ hb t0 ?_; (· kernel_rfl); (· simp [qed, hN])
  with_reducible refine wl_and1 ?_ ?_
  ·simp [qed, hN]
  simp only [qea, hN, seval, and1]
  (repeat ((first | ((with_reducible refine zaw ?_ ?_ ?_ ?_); (· rfl); (· simp [qee, hN] <;> omega); (· kernel_rfl)) | ((with_reducible refine qlS ?_ ?_ ?_); (· simp [qed, hN]); (· kernel_rfl))); try simp only [qeb, hN, seval]))
  rw [bv]
  refine wl_lit [byte (v.n % 2)] (by simp [qed, hN]) rfl (by simp) ?_
  intro r w2 hown hc2
  refine zah ?_
  simp only [qea, hN, seval]
  refine zaa (hK _ _ ?_); clear hK K
  refine wp_ret ⟨by simp [zab, hD], ?_⟩; simp only [qea, hN, seval]
  exact ⟨hown.mono hc.size, hc.trans hc2 fun _ _ h => h⟩
 case uuid =>
  (repeat (first | (with_reducible refine wp_seq_k (fun K hK => ?_)) | (with_reducible refine wp_block ?_) | ((with_reducible refine zax ?_); (repeat (first | ((with_reducible refine zaw ?_ ?_ ?_ ?_); (· exact rfl); (· simp [qee, hN, h0, zaI, zac] <;> omega); (· kernel_rfl); try simp only [qeb, hN, seval, h0, zaI, zac]) | ((with_reducible refine qlS ?_ ?_ ?_); (· simp [qed, hN, h0, zaI, zac]); (· kernel_rfl); try simp only [qeb, hN, seval, h0, zaI, zac]) | ((with_reducible first | refine zaC ?_ ?_ ?_ | refine zaB ?_ ?_ ?_ | refine zaD ?_ ?_) <;> (first | (with_reducible refine zau ?_; try simp only [qeb, hN, seval, h0, zaI, zac]) | (simp [qed, hN, h0, zaI, zac] <;> omega))) | ((with_reducible refine zao ?_ ?_); (· simp [qed, hN, h0, zaI, zac]); try simp only [qeb, hN, seval, h0, zaI, zac]) | ((with_reducible refine zan ?_ ?_); (· simp [qed, hN, h0, zaI, zac]); try simp only [qeb, hN, seval, h0, zaI, zac]) | ((with_reducible apply zak); (· exact rfl); (· exact rfl); (· simp [qed, hN, h0, zaI, zac]); try simp only [qeb, hN, seval, h0, zaI, zac]) | ((with_reducible apply zas); (· exact rfl); (· exact rfl); (· simp [qed, hN, h0, zaI, zac]); try simp only [qeb, hN, seval, h0, zaI, zac]) | ((with_reducible apply zat); (· exact rfl); (· exact rfl); (· simp [qed, hN, h0, zaI, zac]); try simp only [qeb, hN, seval, h0, zaI, zac]))); (refine zaa ?_)) | ((with_reducible refine wp_cond_true ?_ ?_); (· simp [qed, hN, h0, zaI])) | ((with_reducible refine wp_cond_false ?_ ?_); (· simp [qed, hN, h0, zaI])) | (with_reducible refine wp_skip ?_) | (refine hK _ _ ?_; clear hK K)))
  refine zax ?_
  obtain ⟨w2, hr, hc2, hb2⟩ := run_make16 w1
  refine zaL rfl (v := .slice (some ⟨w1.heap.size, 0, none⟩) 16 16) (w' := w2) (by simp only [execOp, Sem.run_bind, zai, hr]; rfl) ?_
  refine zah ?_
  simp only [qea, hN, seval]
  refine zaa (hK _ _ ?_); clear hK K
  have hbt := hbb.stay (zbl.none (hc.trans hc2 fun _ _ h => h))
  obtain ⟨vv, w3, hr3, hc3, hb3⟩ := run_copy16 (cb := cb) 3 hb2 hbt
  have hbx := hb.chg hc2 fun h => h
  refine qsr fun K hK => ?_
  (repeat ((first | ((with_reducible refine zaw ?_ ?_ ?_ ?_); (· rfl); (· simp [qee, hN] <;> omega); (· kernel_rfl)) | ((with_reducible refine qlS ?_ ?_ ?_); (· simp [qed, hN]); (· kernel_rfl))); try simp only [qeb, hN, seval]))
  with_reducible refine zay (b := w.heap.size) (off := 1) (n := 1) ?_ ?_ ?_; (· kernel_rfl); (· simp [qed, hN])
  with_reducible refine zaK (b := w.heap.size) (o := 1) ?_ ?_ hbx t1 ?_; (· kernel_rfl); (· simp [qed, hN])
  refine zaL rfl (v := vv) (w' := w3) (by simp [qea, execOp, resolve, invoke, builtin, hN, seval, hr3]) ?_
  refine zaa (hK _ _ ?_); clear hK K
  refine qsr fun K hK => ?_
  (repeat ((first | ((with_reducible refine zaw ?_ ?_ ?_ ?_); (· rfl); (· simp [qee, hN] <;> omega); (· kernel_rfl)) | ((with_reducible refine qlS ?_ ?_ ?_); (· simp [qed, hN]); (· kernel_rfl))); try simp only [qeb, hN, seval]))
  refine zaa (hK _ _ ?_); clear hK K
  refine wp_ret ⟨by simp [zab, hD], ?_⟩; simp only [qea, hN, seval]
  have hl16 : ((v.b ++ List.replicate 16 0).take 16).length = 16 := by simp
  refine ⟨own16 hl16 hc.size hb3, (hc.trans hc2 fun _ _ h => h).trans hc3 fun n hn h => by have := hc.size; omega⟩
 case text =>
  have hl : sVal .text sub flex nul ver v = sCount flex nul (if nul then [] else v.b.take zbu).length 2 ++ (if nul then [] else v.b.take zbu) := rfl
  rw [hl] at hlim ⊢
  rw [List.length_append] at hlim
  unfold SLIM at hlim
  (repeat (first | (with_reducible refine wp_seq_k (fun K hK => ?_)) | (with_reducible refine wp_block ?_) | ((with_reducible refine zax ?_); (repeat (first | ((with_reducible refine zaw ?_ ?_ ?_ ?_); (· exact rfl); (· simp [qee, hN, h0, zaI, zac] <;> omega); (· kernel_rfl); try simp only [qeb, hN, seval, h0, zaI, zac]) | ((with_reducible refine qlS ?_ ?_ ?_); (· simp [qed, hN, h0, zaI, zac]); (· kernel_rfl); try simp only [qeb, hN, seval, h0, zaI, zac]) | ((with_reducible first | refine zaC ?_ ?_ ?_ | refine zaB ?_ ?_ ?_ | refine zaD ?_ ?_) <;> (first | (with_reducible refine zau ?_; try simp only [qeb, hN, seval, h0, zaI, zac]) | (simp [qed, hN, h0, zaI, zac] <;> omega))) | ((with_reducible refine zao ?_ ?_); (· simp [qed, hN, h0, zaI, zac]); try simp only [qeb, hN, seval, h0, zaI, zac]) | ((with_reducible refine zan ?_ ?_); (· simp [qed, hN, h0, zaI, zac]); try simp only [qeb, hN, seval, h0, zaI, zac]) | ((with_reducible apply zak); (· exact rfl); (· exact rfl); (· simp [qed, hN, h0, zaI, zac]); try simp only [qeb, hN, seval, h0, zaI, zac]) | ((with_reducible apply zas); (· exact rfl); (· exact rfl); (· simp [qed, hN, h0, zaI, zac]); try simp only [qeb, hN, seval, h0, zaI, zac]) | ((with_reducible apply zat); (· exact rfl); (· exact rfl); (· simp [qed, hN, h0, zaI, zac]); try simp only [qeb, hN, seval, h0, zaI, zac]))); (refine zaa ?_)) | ((with_reducible refine wp_cond_true ?_ ?_); (· simp [qed, hN, h0, zaI])) | ((with_reducible refine wp_cond_false ?_ ?_); (· simp [qed, hN, h0, zaI])) | (with_reducible refine wp_skip ?_) | (refine hK _ _ ?_; clear hK K)))
  refine zax ?_
  with_reducible refine zay (b := w.heap.size) (off := 1) (n := 1) ?_ ?_ ?_; (· kernel_rfl); (· simp [qed, hN])
  with_reducible refine zaK (b := w.heap.size) (o := 1) ?_ ?_ hb t1 ?_; (· kernel_rfl); (· simp [qed, hN])
  refine zaz (fun args w => Tryz.call39 args w) (by simp [qea, hN, seval]; exact whole_c v.b hcb) ?_
  rintro _ _ ⟨rfl, rfl⟩
  (repeat ((first | ((with_reducible refine zaw ?_ ?_ ?_ ?_); (· rfl); (· simp [qee, hN] <;> omega); (· kernel_rfl)) | ((with_reducible refine qlS ?_ ?_ ?_); (· simp [qed, hN]); (· kernel_rfl))); try simp only [qeb, hN, seval]))
  refine zaa (hK _ _ ?_); clear hK K
  have hbt := (hbb.take zbu).stay (zbl.none hc)
  generalize v.b.take zbu = tb at hbt hlim ⊢
  cases nul with
  | true =>
   (repeat (first | (with_reducible refine wp_seq_k (fun K hK => ?_)) | (with_reducible refine wp_block ?_) | ((with_reducible refine zax ?_); (repeat (first | ((with_reducible refine zaw ?_ ?_ ?_ ?_); (· exact rfl); (· simp [qee, hN, h2, zac] <;> omega); (· kernel_rfl); try simp only [qeb, hN, seval, h2, zac]) | ((with_reducible refine qlS ?_ ?_ ?_); (· simp [qed, hN, h2, zac]); (· kernel_rfl); try simp only [qeb, hN, seval, h2, zac]) | ((with_reducible first | refine zaC ?_ ?_ ?_ | refine zaB ?_ ?_ ?_ | refine zaD ?_ ?_) <;> (first | (with_reducible refine zau ?_; try simp only [qeb, hN, seval, h2, zac]) | (simp [qed, hN, h2, zac] <;> omega))) | ((with_reducible refine zao ?_ ?_); (· simp [qed, hN, h2, zac]); try simp only [qeb, hN, seval, h2, zac]) | ((with_reducible refine zan ?_ ?_); (· simp [qed, hN, h2, zac]); try simp only [qeb, hN, seval, h2, zac]) | ((with_reducible apply zak); (· exact rfl); (· exact rfl); (· simp [qed, hN, h2, zac]); try simp only [qeb, hN, seval, h2, zac]) | ((with_reducible apply zas); (· exact rfl); (· exact rfl); (· simp [qed, hN, h2, zac]); try simp only [qeb, hN, seval, h2, zac]) | ((with_reducible apply zat); (· exact rfl); (· exact rfl); (· simp [qed, hN, h2, zac]); try simp only [qeb, hN, seval, h2, zac]))); (refine zaa ?_)) | ((with_reducible refine wp_cond_true ?_ ?_); (· simp [qed, hN, h2])) | ((with_reducible refine wp_cond_false ?_ ?_); (· simp [qed, hN, h2])) | (with_reducible refine wp_skip ?_) | (refine hK _ _ ?_; clear hK K)))
   refine zax ?_
   (repeat ((first | ((with_reducible refine zaw ?_ ?_ ?_ ?_); (· rfl); (· simp [qee, hN, h2, h4] <;> omega); (· kernel_rfl)) | ((with_reducible refine qlS ?_ ?_ ?_); (· simp [qed, hN, h2, h4]); (· kernel_rfl))); try simp only [qeb, hN, seval, h2, h4]))
   simp only [if_true, List.length_nil] at hlim ⊢
   refine zaz (fun args w => Tryz.call62 args w) (by simp [qea, hN, seval]; exact counted_c flex true 0 2 (by omega) (by omega)) ?_
   rintro r w2 ho
   (repeat ((first | ((with_reducible refine zaw ?_ ?_ ?_ ?_); (· rfl); (· simp [qee, hN] <;> omega); (· kernel_rfl)) | ((with_reducible refine qlS ?_ ?_ ?_); (· simp [qed, hN]); (· kernel_rfl))); try simp only [qeb, hN, seval]))
   refine wl_append bT (bs' := []) (oa := none) (c := 0) (G := fun _ => True) (by simp only [qea, hN, seval]) (by simp only [qea, hN, seval] <;> rfl) ho.1 (.inl rfl) (by unfold LIM; first | omega | (simp only [List.length_nil]; omega)) ho.2.size ?_
   intro r2 w3 happ
   refine zah ?_
   simp only [qea, hN, seval]
   refine zaa (hK _ _ ?_); clear hK K
   refine wp_ret ⟨by simp [zab, hD], ?_⟩; simp only [qea, hN, seval]
   exact ⟨happ.own.mono hc.size, hc.trans (ho.2.trans (happ.chgFrom ho.1) fun _ hx h => by omega) fun n hx h => by omega⟩
  | false =>
   (repeat (first | (with_reducible refine wp_seq_k (fun K hK => ?_)) | (with_reducible refine wp_block ?_) | ((with_reducible refine zax ?_); (repeat (first | ((with_reducible refine zaw ?_ ?_ ?_ ?_); (· exact rfl); (· simp [qee, hN, h2, zac] <;> omega); (· kernel_rfl); try simp only [qeb, hN, seval, h2, zac]) | ((with_reducible refine qlS ?_ ?_ ?_); (· simp [qed, hN, h2, zac]); (· kernel_rfl); try simp only [qeb, hN, seval, h2, zac]) | ((with_reducible first | refine zaC ?_ ?_ ?_ | refine zaB ?_ ?_ ?_ | refine zaD ?_ ?_) <;> (first | (with_reducible refine zau ?_; try simp only [qeb, hN, seval, h2, zac]) | (simp [qed, hN, h2, zac] <;> omega))) | ((with_reducible refine zao ?_ ?_); (· simp [qed, hN, h2, zac]); try simp only [qeb, hN, seval, h2, zac]) | ((with_reducible refine zan ?_ ?_); (· simp [qed, hN, h2, zac]); try simp only [qeb, hN, seval, h2, zac]) | ((with_reducible apply zak); (· exact rfl); (· exact rfl); (· simp [qed, hN, h2, zac]); try simp only [qeb, hN, seval, h2, zac]) | ((with_reducible apply zas); (· exact rfl); (· exact rfl); (· simp [qed, hN, h2, zac]); try simp only [qeb, hN, seval, h2, zac]) | ((with_reducible apply zat); (· exact rfl); (· exact rfl); (· simp [qed, hN, h2, zac]); try simp only [qeb, hN, seval, h2, zac]))); (refine zaa ?_)) | ((with_reducible refine wp_cond_true ?_ ?_); (· simp [qed, hN, h2])) | ((with_reducible refine wp_cond_false ?_ ?_); (· simp [qed, hN, h2])) | (with_reducible refine wp_skip ?_) | (refine hK _ _ ?_; clear hK K)))
   refine zax ?_
   (repeat ((first | ((with_reducible refine zaw ?_ ?_ ?_ ?_); (· rfl); (· simp [qee, hN, h2, h4] <;> omega); (· kernel_rfl)) | ((with_reducible refine qlS ?_ ?_ ?_); (· simp [qed, hN, h2, h4]); (· kernel_rfl))); try simp only [qeb, hN, seval, h2, h4]))
   simp only [Bool.false_eq_true, if_false] at hlim ⊢
   refine zaz (fun args w => Tryz.call62 args w) (by simp [qea, hN, seval]; exact counted_c flex false tb.length 2 (by omega) (by omega)) ?_
   rintro r w2 ho
   (repeat ((first | ((with_reducible refine zaw ?_ ?_ ?_ ?_); (· rfl); (· simp [qee, hN] <;> omega); (· kernel_rfl)) | ((with_reducible refine qlS ?_ ?_ ?_); (· simp [qed, hN]); (· kernel_rfl))); try simp only [qeb, hN, seval]))
   refine wl_append bT (bs' := tb) (oa := ob) (c := cb) (G := G') (by simp only [qea, hN, seval]) (by simp only [qea, hN, seval]) ho.1 (hbt.stay (zbl.none ho.2)) (by unfold LIM; first | omega | (simp only [List.length_nil]; omega)) ho.2.size ?_
   intro r2 w3 happ
   refine zah ?_
   simp only [qea, hN, seval]
   refine zaa (hK _ _ ?_); clear hK K
   refine wp_ret ⟨by simp [zab, hD], ?_⟩; simp only [qea, hN, seval]
   exact ⟨happ.own.mono hc.size, hc.trans (ho.2.trans (happ.chgFrom ho.1) fun _ hx h => by omega) fun n hx h => by omega⟩
 case bytes =>
  have hl : sVal .bytes sub flex nul ver v = sCount flex nul (if nul then [] else v.b.take zbu).length 4 ++ (if nul then [] else v.b.take zbu) := rfl
  rw [hl] at hlim ⊢
  rw [List.length_append] at hlim
  unfold SLIM at hlim
  (repeat (first | (with_reducible refine wp_seq_k (fun K hK => ?_)) | (with_reducible refine wp_block ?_) | ((with_reducible refine zax ?_); (repeat (first | ((with_reducible refine zaw ?_ ?_ ?_ ?_); (· exact rfl); (· simp [qee, hN, h0, zaI, zac] <;> omega); (· kernel_rfl); try simp only [qeb, hN, seval, h0, zaI, zac]) | ((with_reducible refine qlS ?_ ?_ ?_); (· simp [qed, hN, h0, zaI, zac]); (· kernel_rfl); try simp only [qeb, hN, seval, h0, zaI, zac]) | ((with_reducible first | refine zaC ?_ ?_ ?_ | refine zaB ?_ ?_ ?_ | refine zaD ?_ ?_) <;> (first | (with_reducible refine zau ?_; try simp only [qeb, hN, seval, h0, zaI, zac]) | (simp [qed, hN, h0, zaI, zac] <;> omega))) | ((with_reducible refine zao ?_ ?_); (· simp [qed, hN, h0, zaI, zac]); try simp only [qeb, hN, seval, h0, zaI, zac]) | ((with_reducible refine zan ?_ ?_); (· simp [qed, hN, h0, zaI, zac]); try simp only [qeb, hN, seval, h0, zaI, zac]) | ((with_reducible apply zak); (· exact rfl); (· exact rfl); (· simp [qed, hN, h0, zaI, zac]); try simp only [qeb, hN, seval, h0, zaI, zac]) | ((with_reducible apply zas); (· exact rfl); (· exact rfl); (· simp [qed, hN, h0, zaI, zac]); try simp only [qeb, hN, seval, h0, zaI, zac]) | ((with_reducible apply zat); (· exact rfl); (· exact rfl); (· simp [qed, hN, h0, zaI, zac]); try simp only [qeb, hN, seval, h0, zaI, zac]))); (refine zaa ?_)) | ((with_reducible refine wp_cond_true ?_ ?_); (· simp [qed, hN, h0, zaI])) | ((with_reducible refine wp_cond_false ?_ ?_); (· simp [qed, hN, h0, zaI])) | (with_reducible refine wp_skip ?_) | (refine hK _ _ ?_; clear hK K)))
  refine zax ?_
  with_reducible refine zay (b := w.heap.size) (off := 1) (n := 1) ?_ ?_ ?_; (· kernel_rfl); (· simp [qed, hN])
  with_reducible refine zaK (b := w.heap.size) (o := 1) ?_ ?_ hb t1 ?_; (· kernel_rfl); (· simp [qed, hN])
  refine zaz (fun args w => Tryz.call39 args w) (by simp [qea, hN, seval]; exact whole_c v.b hcb) ?_
  rintro _ _ ⟨rfl, rfl⟩
  (repeat ((first | ((with_reducible refine zaw ?_ ?_ ?_ ?_); (· rfl); (· simp [qee, hN] <;> omega); (· kernel_rfl)) | ((with_reducible refine qlS ?_ ?_ ?_); (· simp [qed, hN]); (· kernel_rfl))); try simp only [qeb, hN, seval]))
  refine zaa (hK _ _ ?_); clear hK K
  have hbt := (hbb.take zbu).stay (zbl.none hc)
  generalize v.b.take zbu = tb at hbt hlim ⊢
  cases nul with
  | true =>
   (repeat (first | (with_reducible refine wp_seq_k (fun K hK => ?_)) | (with_reducible refine wp_block ?_) | ((with_reducible refine zax ?_); (repeat (first | ((with_reducible refine zaw ?_ ?_ ?_ ?_); (· exact rfl); (· simp [qee, hN, h2, zac] <;> omega); (· kernel_rfl); try simp only [qeb, hN, seval, h2, zac]) | ((with_reducible refine qlS ?_ ?_ ?_); (· simp [qed, hN, h2, zac]); (· kernel_rfl); try simp only [qeb, hN, seval, h2, zac]) | ((with_reducible first | refine zaC ?_ ?_ ?_ | refine zaB ?_ ?_ ?_ | refine zaD ?_ ?_) <;> (first | (with_reducible refine zau ?_; try simp only [qeb, hN, seval, h2, zac]) | (simp [qed, hN, h2, zac] <;> omega))) | ((with_reducible refine zao ?_ ?_); (· simp [qed, hN, h2, zac]); try simp only [qeb, hN, seval, h2, zac]) | ((with_reducible refine zan ?_ ?_); (· simp [qed, hN, h2, zac]); try simp only [qeb, hN, seval, h2, zac]) | ((with_reducible apply zak); (· exact rfl); (· exact rfl); (· simp [qed, hN, h2, zac]); try simp only [qeb, hN, seval, h2, zac]) | ((with_reducible apply zas); (· exact rfl); (· exact rfl); (· simp [qed, hN, h2, zac]); try simp only [qeb, hN, seval, h2, zac]) | ((with_reducible apply zat); (· exact rfl); (· exact rfl); (· simp [qed, hN, h2, zac]); try simp only [qeb, hN, seval, h2, zac]))); (refine zaa ?_)) | ((with_reducible refine wp_cond_true ?_ ?_); (· simp [qed, hN, h2])) | ((with_reducible refine wp_cond_false ?_ ?_); (· simp [qed, hN, h2])) | (with_reducible refine wp_skip ?_) | (refine hK _ _ ?_; clear hK K)))
   refine zax ?_
   (repeat ((first | ((with_reducible refine zaw ?_ ?_ ?_ ?_); (· rfl); (· simp [qee, hN, h2, h4] <;> omega); (· kernel_rfl)) | ((with_reducible refine qlS ?_ ?_ ?_); (· simp [qed, hN, h2, h4]); (· kernel_rfl))); try simp only [qeb, hN, seval, h2, h4]))
   simp only [if_true, List.length_nil] at hlim ⊢
   refine zaz (fun args w => Tryz.call62 args w) (by simp [qea, hN, seval]; exact counted_c flex true 0 4 (by omega) (by omega)) ?_
   rintro r w2 ho
   (repeat ((first | ((with_reducible refine zaw ?_ ?_ ?_ ?_); (· rfl); (· simp [qee, hN] <;> omega); (· kernel_rfl)) | ((with_reducible refine qlS ?_ ?_ ?_); (· simp [qed, hN]); (· kernel_rfl))); try simp only [qeb, hN, seval]))
   refine wl_append bT (bs' := []) (oa := none) (c := 0) (G := fun _ => True) (by simp only [qea, hN, seval]) (by simp only [qea, hN, seval] <;> rfl) ho.1 (.inl rfl) (by unfold LIM; first | omega | (simp only [List.length_nil]; omega)) ho.2.size ?_
   intro r2 w3 happ
   refine zah ?_
   simp only [qea, hN, seval]
   refine zaa (hK _ _ ?_); clear hK K
   refine wp_ret ⟨by simp [zab, hD], ?_⟩; simp only [qea, hN, seval]
   exact ⟨happ.own.mono hc.size, hc.trans (ho.2.trans (happ.chgFrom ho.1) fun _ hx h => by omega) fun n hx h => by omega⟩
  | false =>
   (repeat (first | (with_reducible refine wp_seq_k (fun K hK => ?_)) | (with_reducible refine wp_block ?_) | ((with_reducible refine zax ?_); (repeat (first | ((with_reducible refine zaw ?_ ?_ ?_ ?_); (· exact rfl); (· simp [qee, hN, h2, zac] <;> omega); (· kernel_rfl); try simp only [qeb, hN, seval, h2, zac]) | ((with_reducible refine qlS ?_ ?_ ?_); (· simp [qed, hN, h2, zac]); (· kernel_rfl); try simp only [qeb, hN, seval, h2, zac]) | ((with_reducible first | refine zaC ?_ ?_ ?_ | refine zaB ?_ ?_ ?_ | refine zaD ?_ ?_) <;> (first | (with_reducible refine zau ?_; try simp only [qeb, hN, seval, h2, zac]) | (simp [qed, hN, h2, zac] <;> omega))) | ((with_reducible refine zao ?_ ?_); (· simp [qed, hN, h2, zac]); try simp only [qeb, hN, seval, h2, zac]) | ((with_reducible refine zan ?_ ?_); (· simp [qed, hN, h2, zac]); try simp only [qeb, hN, seval, h2, zac]) | ((with_reducible apply zak); (· exact rfl); (· exact rfl); (· simp [qed, hN, h2, zac]); try simp only [qeb, hN, seval, h2, zac]) | ((with_reducible apply zas); (· exact rfl); (· exact rfl); (· simp [qed, hN, h2, zac]); try simp only [qeb, hN, seval, h2, zac]) | ((with_reducible apply zat); (· exact rfl); (· exact rfl); (· simp [qed, hN, h2, zac]); try simp only [qeb, hN, seval, h2, zac]))); (refine zaa ?_)) | ((with_reducible refine wp_cond_true ?_ ?_); (· simp [qed, hN, h2])) | ((with_reducible refine wp_cond_false ?_ ?_); (· simp [qed, hN, h2])) | (with_reducible refine wp_skip ?_) | (refine hK _ _ ?_; clear hK K)))
   refine zax ?_
   (repeat ((first | ((with_reducible refine zaw ?_ ?_ ?_ ?_); (· rfl); (· simp [qee, hN, h2, h4] <;> omega); (· kernel_rfl)) | ((with_reducible refine qlS ?_ ?_ ?_); (· simp [qed, hN, h2, h4]); (· kernel_rfl))); try simp only [qeb, hN, seval, h2, h4]))
   simp only [Bool.false_eq_true, if_false] at hlim ⊢
   refine zaz (fun args w => Tryz.call62 args w) (by simp [qea, hN, seval]; exact counted_c flex false tb.length 4 (by omega) (by omega)) ?_
   rintro r w2 ho
   (repeat ((first | ((with_reducible refine zaw ?_ ?_ ?_ ?_); (· rfl); (· simp [qee, hN] <;> omega); (· kernel_rfl)) | ((with_reducible refine qlS ?_ ?_ ?_); (· simp [qed, hN]); (· kernel_rfl))); try simp only [qeb, hN, seval]))
   refine wl_append bT (bs' := tb) (oa := ob) (c := cb) (G := G') (by simp only [qea, hN, seval]) (by simp only [qea, hN, seval]) ho.1 (hbt.stay (zbl.none ho.2)) (by unfold LIM; first | omega | (simp only [List.length_nil]; omega)) ho.2.size ?_
   intro r2 w3 happ
   refine zah ?_
   simp only [qea, hN, seval]
   refine zaa (hK _ _ ?_); clear hK K
   refine wp_ret ⟨by simp [zab, hD], ?_⟩; simp only [qea, hN, seval]
   exact ⟨happ.own.mono hc.size, hc.trans (ho.2.trans (happ.chgFrom ho.1) fun _ hx h => by omega) fun n hx h => by omega⟩
 case struct =>
  (repeat (first | (with_reducible refine wp_seq_k (fun K hK => ?_)) | (with_reducible refine wp_block ?_) | ((with_reducible refine zax ?_); (repeat (first | ((with_reducible refine zaw ?_ ?_ ?_ ?_); (· exact rfl); (· simp [qee, hN, h0, h1, h3, h4, zaI, zac] <;> omega); (· kernel_rfl); try simp only [qeb, hN, seval, h0, h1, h3, h4, zaI, zac]) | ((with_reducible refine qlS ?_ ?_ ?_); (· simp [qed, hN, h0, h1, h3, h4, zaI, zac]); (· kernel_rfl); try simp only [qeb, hN, seval, h0, h1, h3, h4, zaI, zac]) | ((with_reducible first | refine zaC ?_ ?_ ?_ | refine zaB ?_ ?_ ?_ | refine zaD ?_ ?_) <;> (first | (with_reducible refine zau ?_; try simp only [qeb, hN, seval, h0, h1, h3, h4, zaI, zac]) | (simp [qed, hN, h0, h1, h3, h4, zaI, zac] <;> omega))) | ((with_reducible refine zao ?_ ?_); (· simp [qed, hN, h0, h1, h3, h4, zaI, zac]); try simp only [qeb, hN, seval, h0, h1, h3, h4, zaI, zac]) | ((with_reducible refine zan ?_ ?_); (· simp [qed, hN, h0, h1, h3, h4, zaI, zac]); try simp only [qeb, hN, seval, h0, h1, h3, h4, zaI, zac]) | ((with_reducible apply zak); (· exact rfl); (· exact rfl); (· simp [qed, hN, h0, h1, h3, h4, zaI, zac]); try simp only [qeb, hN, seval, h0, h1, h3, h4, zaI, zac]) | ((with_reducible apply zas); (· exact rfl); (· exact rfl); (· simp [qed, hN, h0, h1, h3, h4, zaI, zac]); try simp only [qeb, hN, seval, h0, h1, h3, h4, zaI, zac]) | ((with_reducible apply zat); (· exact rfl); (· exact rfl); (· simp [qed, hN, h0, h1, h3, h4, zaI, zac]); try simp only [qeb, hN, seval, h0, h1, h3, h4, zaI, zac]))); (refine zaa ?_)) | ((with_reducible refine wp_cond_true ?_ ?_); (· simp [qed, hN, h0, h1, h3, h4, zaI])) | ((with_reducible refine wp_cond_false ?_ ?_); (· simp [qed, hN, h0, h1, h3, h4, zaI])) | (with_reducible refine wp_skip ?_) | (refine hK _ _ ?_; clear hK K)))
  refine zax ?_
  (repeat ((first | ((with_reducible refine zaw ?_ ?_ ?_ ?_); (· rfl); (· simp [qee, hN, h1, h3, h4] <;> omega); (· kernel_rfl)) | ((with_reducible refine qlS ?_ ?_ ?_); (· simp [qed, hN, h1, h3, h4]); (· kernel_rfl))); try simp only [qeb, hN, seval, h1, h3, h4]))
  refine za7 (b := w.heap.size) (o := 0) (n := 5) (by kernel_rfl) (by kernel_rfl) (by simp [qed, hN]) hb (by rw [hv.len]; omega) ?_
  have e5 : (ts.drop 0).take 5 = ts := by rw [List.drop_zero, List.take_of_length_le (by rw [hv.len]; omega)]
  rw [e5]
  refine zaz (fun args w => Tryz.call18 args w) (by simp [qea, hN, seval, h1, h3, h4]; exact hp rfl ver flex v hvo hlim (hsub.stay (zbl.none hc)) (hv.stay (zbl.none hc))) ?_
  rintro r w2 ho
  (repeat ((first | ((with_reducible refine zaw ?_ ?_ ?_ ?_); (· rfl); (· simp [qee, hN] <;> omega); (· kernel_rfl)) | ((with_reducible refine qlS ?_ ?_ ?_); (· simp [qed, hN]); (· kernel_rfl))); try simp only [qeb, hN, seval]))
  refine zaa (hK _ _ ?_); clear hK K
  refine wp_ret ⟨by simp [zab, hD], ?_⟩; simp only [qea, hN, seval]
  exact ⟨ho.1.mono hc.size, hc.trans ho.2 fun _ _ h => h⟩
 all_goals
  (repeat (first | (with_reducible refine wp_seq_k (fun K hK => ?_)) | (with_reducible refine wp_block ?_) | ((with_reducible refine zax ?_); (repeat (first | ((with_reducible refine zaw ?_ ?_ ?_ ?_); (· exact rfl); (· simp [qee, hN, h0, zaI, zac] <;> omega); (· kernel_rfl); try simp only [qeb, hN, seval, h0, zaI, zac]) | ((with_reducible refine qlS ?_ ?_ ?_); (· simp [qed, hN, h0, zaI, zac]); (· kernel_rfl); try simp only [qeb, hN, seval, h0, zaI, zac]) | ((with_reducible first | refine zaC ?_ ?_ ?_ | refine zaB ?_ ?_ ?_ | refine zaD ?_ ?_) <;> (first | (with_reducible refine zau ?_; try simp only [qeb, hN, seval, h0, zaI, zac]) | (simp [qed, hN, h0, zaI, zac] <;> omega))) | ((with_reducible refine zao ?_ ?_); (· simp [qed, hN, h0, zaI, zac]); try simp only [qeb, hN, seval, h0, zaI, zac]) | ((with_reducible refine zan ?_ ?_); (· simp [qed, hN, h0, zaI, zac]); try simp only [qeb, hN, seval, h0, zaI, zac]) | ((with_reducible apply zak); (· exact rfl); (· exact rfl); (· simp [qed, hN, h0, zaI, zac]); try simp only [qeb, hN, seval, h0, zaI, zac]) | ((with_reducible apply zas); (· exact rfl); (· exact rfl); (· simp [qed, hN, h0, zaI, zac]); try simp only [qeb, hN, seval, h0, zaI, zac]) | ((with_reducible apply zat); (· exact rfl); (· exact rfl); (· simp [qed, hN, h0, zaI, zac]); try simp only [qeb, hN, seval, h0, zaI, zac]))); (refine zaa ?_)) | ((with_reducible refine wp_cond_true ?_ ?_); (· simp [qed, hN, h0, zaI])) | ((with_reducible refine wp_cond_false ?_ ?_); (· simp [qed, hN, h0, zaI])) | (with_reducible refine wp_skip ?_) | (refine hK _ _ ?_; clear hK K)))
  refine hK0 _ _ ?_; try clear hK0 K0
  refine qsk fun K hK => ?_
  refine wp_sched (fun w' => Chg (fun _ => False) w1 w') [(true, 0), (true, 1), (true, 2), (false, 3), (false, 4), (true, 5)] zaR (by kernel_rfl) (by kernel_rfl) (Chg.drew _ _) ?_
  refine zbp (b := w.heap.size) (o := 0) (off := 0) (n := 1) (by kernel_rfl) rfl (by simp [qed, hN]) ?_
  refine ws_load (b := w.heap.size) (o := 0 + 0) (by kernel_rfl) rfl (by simp [qed, hN]) (fun w' hw => hb.chg hw (fun h => h)) t0 ?_
  refine zbf rfl ?_
  simp only [qea, hN, seval, h0]
  refine ws_call (fun args w => Tryz.call65 args w) rfl (by simp [qea, hN, seval]; exact width_c _ (by decide)) ?_
  rintro _ w3 ⟨rfl, rfl⟩
  refine ⟨Chg.drew _ _, ?_⟩
  refine ws_call (fun args w => Tryz.call64 args w) rfl (by simp [qea, hN, seval]; exact Fixed_c v.n _ (by decide)) ?_
  rintro v1 w3 ho1
  have hk1 : Chg (fun _ => False) w1 w3 := (Chg.drew _ _).trans ho1.2 fun _ _ h => h
  refine ⟨hk1, ?_⟩
  refine ws_assign rfl ?_
  simp only [qea, hN, seval]
  refine ws_nil ?_
  refine hK _ _ ?_
  clear hK K
  refine wp_ret ⟨by simp [zab, hD], ?_⟩; simp only [qea, hN, seval]
  exact ⟨ho1.1.mono hc.size, hc.trans hk1 fun _ _ h => h⟩
end Go.Proofs.YtnjjfpgpookjlaaGreatDoor
