import Derived.Test.YtbbocmkcciemdaaZT
import Derived.Test.YtbbocmkcciemdaaZD
import Derived.Test.YtbbocmkcciemdaaZS
import Derived.Test.YtbbocmkcciemdaaZK
/-
What the proofs of the laws rest on, part ZJ.
-/
namespace Go.Proofs.Ytbbocmkcciemdaa
set_option linter.all false
open Go.RowKit
set_option maxRecDepth 10000
set_option maxHeartbeats 2000000
def TgC (w : World) (G : Nat → Prop) (x : Nat × Bs) (vs : List Value) : Prop :=
  ∃ ob cb, vs = [.int .u32 x.1, .slice ob x.2.length cb] ∧ x.1 < 4294967296 ∧ x.2.length ≤ cb ∧ zad w G ob x.2
def TgL (w : World) (G : Nat → Prop) : zat → List Value → Prop
  | [], _ => True
  | x :: r, vs => TgC w G x (vs.take 2) ∧ TgL w G r (vs.drop 2)
def TgS (w : World) (G : Nat → Prop) (t : zat) (v : Value) : Prop :=
  ∃ oa cap, v = .slice oa t.length cap ∧ t.length ≤ cap ∧ (t = [] ∨ ∃ b o cs T, oa = some ⟨b, o, none⟩ ∧ G b ∧ Rbk w b cs T ∧ TgL w G t (cs.drop o))
section
variable {w w' : World} {G G' : Nat → Prop} (st : Stay w w' G G')
include st
theorem TgL.stay : ∀ {t : zat} {vs : List Value}, TgL w G t vs → TgL w' G' t vs
  | [], _, _ => trivial
  | x :: r, vs, ⟨⟨ob, cb, h1, h2, h3, h4⟩, h5⟩ => ⟨⟨ob, cb, h1, h2, h3, h4.stay st⟩, TgL.stay h5⟩
theorem TgS.stay {t : zat} {v : Value} (h : TgS w G t v) : TgS w' G' t v := by
  obtain ⟨oa, cap, h1, h2, h3⟩ := h
  refine ⟨oa, cap, h1, h2, ?_⟩
  rcases h3 with h3 | ⟨b, o, cs, T, h4, h5, h6, h7⟩
  · exact .inl h3
  · exact .inr ⟨b, o, cs, T, h4, (st.heap b h6.lt h5).2, h6.stay st h5, h7.stay st⟩
end
theorem TgL.get {w : World} {G : Nat → Prop} : ∀ {l : zat} {vs : List Value} {i : Nat} {x : Nat × Bs}, TgL w G l vs → l[i]? = some x → TgC w G x ((vs.drop (i * 2)).take 2) ∧ i * 2 + 2 ≤ vs.length
  | [], _, i, f, _, hf => by simp at hf
  | g :: r, vs, 0, f, h, hf => by
    simp at hf; subst hf
    obtain ⟨ob, cb, h1, _⟩ := h.1
    have := congrArg List.length h1
    simp only [List.length_take, List.length_cons, List.length_nil] at this
    exact ⟨by simpa using h.1, by omega⟩
  | g :: r, vs, i + 1, f, h, hf => by
    obtain ⟨h1, h2⟩ := TgL.get h.2 (by simpa using hf)
    rw [List.drop_drop] at h1
    rw [List.length_drop] at h2
    exact ⟨by rw [show (i + 1) * 2 = 2 + i * 2 by omega]; exact h1, by omega⟩
theorem TgL.of {w : World} {G : Nat → Prop} : ∀ {l : zat} {vs : List Value}, (∀ i x, l[i]? = some x → TgC w G x ((vs.drop (i * 2)).take 2)) → TgL w G l vs
  | [], _, _ => trivial
  | x :: r, vs, h => ⟨by simpa using h 0 x rfl, TgL.of fun i y hy => by
      have := h (i + 1) y (by simpa using hy)
      rw [List.drop_drop, show 2 + i * 2 = (i + 1) * 2 by omega]
      exact this⟩
theorem TgC.two {w : World} {G : Nat → Prop} {x : Nat × Bs} {vs : List Value} (h : TgC w G x vs) : vs.length = 2 := by
  obtain ⟨ob, cb, rfl, _⟩ := h; rfl
theorem TgL.snoc {w : World} {G : Nat → Prop} : ∀ {l : zat} {cs vs : List Value} {x : Nat × Bs}, TgL w G l cs → cs.length = l.length * 2 → TgC w G x vs → TgL w G (l ++ [x]) (cs ++ vs)
  | [], cs, vs, x, _, h0, hx => by
    have : cs = [] := List.eq_nil_of_length_eq_zero (by simpa using h0)
    subst this
    refine ⟨?_, trivial⟩
    rw [List.nil_append, List.take_of_length_le (by rw [hx.two]; omega)]
    exact hx
  | y :: r, cs, vs, x, ⟨h1, h2⟩, h0, hx => by
    simp only [List.length_cons] at h0
    refine ⟨?_, ?_⟩
    · rw [List.take_append_of_le_length (by omega)]; exact h1
    · rw [List.drop_append_of_le_length (by omega)]
      exact TgL.snoc h2 (by rw [List.length_drop]; omega) hx
theorem TgL.take {w : World} {G : Nat → Prop} : ∀ {l : zat} {vs : List Value} (n : Nat), TgL w G l vs → TgL w G (l.take n) vs
  | [], _, n, _ => by simp [TgL]
  | x :: r, vs, 0, _ => by simp [TgL]
  | x :: r, vs, n + 1, h => ⟨h.1, TgL.take n h.2⟩
structure UkI (E : Nat) (w : World) (base : Nat) (G : Nat → Prop) (acc : zat) (v : Value) : Prop where
  row : ∃ cs, w.ownsRow base E 2 v acc.length cs ∧ TgL w G acc cs
theorem UkI.nil (E : Nat) (w : World) (base : Nat) (G : Nat → Prop) : UkI E w base G [] (.slice none 0 0) := ⟨[], World.ownsRow_nil _ _ _ _, trivial⟩
theorem UkI.chg {E : Nat} {w w' : World} {base : Nat} {G : Nat → Prop} {acc : zat} {v : Value} {X : Nat → Prop} (h : UkI E w base G acc v) (c : Chg X w w') (hx : ∀ k, base ≤ k → k < w.heap.size → ¬ X k) (hG : ∀ k, G k → k < w.heap.size → ¬ X k) : UkI E w' base G acc v := by
  obtain ⟨cs, h1, h2⟩ := h.row
  refine ⟨cs, ⟨h1.1, ?_⟩, h2.stay (Stay.of c fun k hk hlt => hG k hk hlt)⟩
  rcases h1.2 with hn | ⟨g, cap, cur, rfl, hbg, hg, rest⟩
  · exact .inl hn
  · refine .inr ⟨g, cap, cur, rfl, hbg, ?_, rest⟩
    have hlt := (Array.getElem?_eq_some_iff.1 hg).1
    rw [c.block g hlt (hx g hbg hlt)]; exact hg
theorem UkI.some {E : Nat} {w : World} {base : Nat} {G : Nat → Prop} {acc : zat} {v : Value} (h : UkI E w base G acc v) (h0 : 0 < acc.length) :
    ∃ g cap C, v = .slice (some ⟨g, 0, none⟩) acc.length cap ∧ base ≤ g ∧ Blk w g C E ∧ acc.length * 2 ≤ C.length ∧ acc.length ≤ cap ∧ TgL w G acc C := by
  obtain ⟨cs, h1, h2⟩ := h.row
  rcases h1.2 with ⟨_, hn⟩ | ⟨g, cap, cur, rfl, hbg, hg, h3, h4, h5, h6⟩
  · omega
  · have hle : acc.length * 2 ≤ cur.size := by omega
    refine ⟨g, cap, cur.toList, rfl, hbg, by unfold Blk; simpa using hg, by simpa using hle, by omega, TgL.of fun i x hx => ?_⟩
    have hi := (List.getElem?_eq_some_iff.1 hx).1
    have := (h2.get hx).1
    rw [← h6] at this
    rw [List.drop_take, List.take_take] at this
    rwa [Nat.min_eq_left (by omega)] at this
theorem UkI.tgs {E : Nat} {w : World} {base : Nat} {G : Nat → Prop} {acc : zat} {v : Value} (h : UkI E w base G acc v) : TgS w (fun g => G g ∨ base ≤ g) acc v := by
  have st : Stay w w G (fun g => G g ∨ base ≤ g) := ⟨fun k _ hg => ⟨rfl, .inl hg⟩⟩
  by_cases h0 : 0 < acc.length
  · obtain ⟨g, cap, C, rfl, hb, hbC, hl, hcap, htl⟩ := h.some h0
    exact ⟨_, cap, rfl, hcap, .inr ⟨g, 0, C, E, rfl, .inr hb, hbC.r, htl.stay st⟩⟩
  · have : acc = [] := List.eq_nil_of_length_eq_zero (by omega)
    subst this
    obtain ⟨cs, h1, _⟩ := h.row
    rcases h1.2 with ⟨rfl, hn⟩ | ⟨g, cap, cur, rfl, hbg, hg, _⟩
    · exact ⟨none, 0, rfl, Nat.le_refl _, .inl rfl⟩
    · exact ⟨_, cap, rfl, Nat.zero_le _, .inl rfl⟩
theorem fits6_c {w : World} {G : Nat → Prop} {x : Nat × Bs} {vs : List Value} (h : TgC w G x vs) : zao Try.prog 12 #[aggOf vs] w fun v w' => (∃ b, v = .bool b) ∧ Chg (fun _ => False) w w' := by
  obtain ⟨ob, cb, rfl, _, _, _⟩ := h
  refine zar Try.func12 rfl rfl Try.ntmps12 (by simp) ?_
  intro a hN hD hargs
  have h0 : get a 0 = aggOf [.int .u32 x.1, .slice ob x.2.length cb] := hargs 0 _ rfl
  refine wp_seq_k fun K hK => ?_; refine zac ?_
  refine wl_boxA (l := [.int .u32 x.1, .slice ob x.2.length cb]) (by simp [evb, kb, hN, h0, sdb]) fun w1 hc1 hb1 hs1 => ?_
  (repeat ((with_reducible refine zaj ?_ ?_ ?_); (· simp [evb, pvb, rnb, kb, hN, dyb, sdb] <;> omega); (· kernel_rfl); try simp only [evb, pvb, rnb, kb, hN, seval])); refine zab ?_; refine hK _ _ ?_; clear hK K
  refine wp_seq_k fun K hK => ?_; refine wp_seq_k fun K1 hK1 => ?_; refine zac ?_
  refine wl_fieldAddr (b := w.heap.size) (o := 0) (off := 1) (n := 1) (by kernel_rfl) (by simp [evb, kb, hN, sdb]) ?_
  refine wl_load (b := w.heap.size) (o := 0 + 1) (by kernel_rfl) (by simp [evb, kb, hN, sdb]) hb1 (v := .slice ob x.2.length cb) rfl ?_
  (repeat ((with_reducible refine zaj ?_ ?_ ?_); (· simp [evb, pvb, rnb, kb, hN, dyb, sdb] <;> omega); (· kernel_rfl); try simp only [evb, pvb, rnb, kb, hN, seval]))
  refine zab ?_; refine hK1 _ _ ?_; try clear hK1 K1
  rcases Bool.eq_false_or_eq_true (decide ((2147483647 : Int) < (x.2.length : Int))) with e | e
  · refine wp_cond_true (by simp [evb, kb, hN, e, sdb]) ?_
    refine wp_seq_k fun K hK => ?_; refine zac ?_; (repeat ((with_reducible refine zaj ?_ ?_ ?_); (· simp [evb, pvb, rnb, kb, hN, dyb, sdb] <;> omega); (· kernel_rfl); try simp only [evb, pvb, rnb, kb, hN, seval])); refine zab ?_; refine hK _ _ ?_; clear hK K; refine wp_ret ⟨by simp [zaa, hD], ?_⟩; simp only [evb, kb, hN, seval]
    exact ⟨⟨_, rfl⟩, hc1⟩
  · refine wp_cond_false (by simp [evb, kb, hN, e, sdb]) ?_
    refine wp_skip (hK _ _ ?_)
    clear hK K
    refine wp_seq_k fun K hK => ?_; refine zac ?_; (repeat ((with_reducible refine zaj ?_ ?_ ?_); (· simp [evb, pvb, rnb, kb, hN, dyb, sdb] <;> omega); (· kernel_rfl); try simp only [evb, pvb, rnb, kb, hN, seval])); refine zab ?_; refine hK _ _ ?_; clear hK K; refine wp_ret ⟨by simp [zaa, hD], ?_⟩; simp only [evb, kb, hN, seval]
    exact ⟨⟨_, rfl⟩, hc1⟩
theorem fits5_c {w : World} {G : Nat → Prop} {l : zat} {v : Value} (hl : TgS w G l v) : zao Try.prog 4 #[v] w fun r w' => (∃ b, r = .bool b ∧ (b = true → l.length ≤ 2147483647)) ∧ Chg (fun _ => False) w w' := by
  obtain ⟨oa, cap, rfl, hcap, hrow⟩ := hl
  refine zar Try.func4 rfl rfl Try.ntmps4 (by simp) ?_
  intro a hN hD hargs
  have h0 : get a 0 = .slice oa l.length cap := hargs 0 _ rfl
  refine wp_seq_k fun K hK => ?_; refine zac ?_; (repeat ((with_reducible refine zaj ?_ ?_ ?_); (· simp [evb, pvb, rnb, kb, hN, dyb, sdb] <;> omega); (· kernel_rfl); try simp only [evb, pvb, rnb, kb, hN, seval])); refine zab ?_; refine hK _ _ ?_; clear hK K
  refine wp_seq_k fun K hK => ?_; refine wp_seq_k fun K1 hK1 => ?_; refine zac ?_; (repeat ((with_reducible refine zaj ?_ ?_ ?_); (· simp [evb, pvb, rnb, kb, hN, h0, dyb, sdb] <;> omega); (· kernel_rfl); try simp only [evb, pvb, rnb, kb, hN, seval, h0]))
  refine zab ?_; refine hK1 _ _ ?_; try clear hK1 K1
  rcases Bool.eq_false_or_eq_true (decide ((2147483647 : Int) < (l.length : Int))) with e | e
  · refine wp_cond_true (by simp [evb, kb, hN, e, sdb]) ?_
    refine wp_seq_k fun K hK => ?_; refine zac ?_; (repeat ((with_reducible refine zaj ?_ ?_ ?_); (· simp [evb, pvb, rnb, kb, hN, dyb, sdb] <;> omega); (· kernel_rfl); try simp only [evb, pvb, rnb, kb, hN, seval])); refine zab ?_; refine hK _ _ ?_; clear hK K; refine wp_ret ⟨by simp [zaa, hD], ?_⟩; simp only [evb, kb, hN, seval]
    exact ⟨⟨_, rfl, fun h => by cases h⟩, Chg.refl _ _⟩
  have hn : l.length ≤ 2147483647 := by simp at e; omega
  refine wp_cond_false (by simp [evb, kb, hN, e, sdb]) ?_
  refine wp_skip (hK _ _ ?_)
  clear hK K
  refine wp_seq_k fun K hK => ?_; refine wp_seq_k fun K1 hK1 => ?_; refine zac ?_; (repeat ((with_reducible refine zaj ?_ ?_ ?_); (· simp [evb, pvb, rnb, kb, hN, h0, dyb, sdb] <;> omega); (· kernel_rfl); try simp only [evb, pvb, rnb, kb, hN, seval, h0])); refine zab ?_; refine hK1 _ _ ?_; try clear hK1 K1
  refine wp_range (n := l.length) (fun i a' w' => a'.tmps.size = 18 ∧ a'.defers = [] ∧ get a' 8 = .slice oa l.length cap ∧ Chg (fun _ => False) w w') 18 (by omega)
    (by simp only [evb, kb, hN, seval]; try rfl) (by simp only [evb, kb, hN, seval]) ⟨by simp only [evb, kb, hN, seval], by simp [zaa, hD], by simp only [evb, kb, hN, seval], Chg.refl _ _⟩ ?_ ?_ (by decide) ?_ ?_
  · rintro i a w ⟨h, _⟩; exact h
  · rintro i a w t v ht ⟨k1, k2, k3, k4⟩
    rcases ht with rfl | rfl | rfl <;> exact ⟨by rw [zai]; exact k1, by rw [zaa]; exact k2, by rw [zal (by decide)]; exact k3, k4⟩
  · clear hN hD
    rintro i a1 w1 hi ⟨hN, hD, g8, hc1⟩ g9 g10
    have hx : l[i]? = some l[i] := by simp [hi]
    generalize l[i] = x at hx
    rcases hrow with rfl | ⟨b, o, cs, T, rfl, hGb, hb, htl⟩
    · simp at hi
    obtain ⟨hcx, hlx⟩ := htl.get hx
    obtain ⟨ob, cb, hx1, hx2, hx3, hx4⟩ := hcx
    have hb1 : Rbk w1 b cs T := hb.chg hc1 (fun h => h)
    rw [List.length_drop] at hlx
    rw [List.drop_drop] at hx1
    refine wp_seq_k fun K3 hK3 => ?_; refine zac ?_
    refine wl_indexAddr (b := b) (o := o) (k := .i64) (i := i) (n := 2) (len := l.length) (cap := cap) (by kernel_rfl) (by simp [evb, kb, hN, g8, sdb]) (by simp [evb, kb, hN, g10, sdb]) hi ?_
    refine wl_loadAgg_r (b := b) (o := o + i * 2) (n := 2) (by kernel_rfl) (by kernel_rfl) (by simp [evb, kb, hN, sdb]) hb1 (by omega) ?_
    rw [hx1]
    refine wl_allocA (z := aggOf [.int .u32 0, .slice none 0 0]) (fun w => Try.zeroValue37 w) fun w3 hc3 hb3 hs3 => ?_
    refine wl_storeAll (b := w1.heap.size) (n := 2) (l' := [.int .u32 x.1, .slice ob x.2.length cb]) (by kernel_rfl) (by simp [evb, kb, hN, sdb]) (by simp [evb, kb, hN, sdb]; rfl) hb3 rfl (by intro y hy; simp only [List.mem_cons, List.not_mem_nil, or_false] at hy; rcases hy with rfl | rfl <;> rfl) rfl fun w4 hb4 hc4 => ?_
    refine zab ?_; refine hK3 _ _ ?_; try clear hK3 K3
    have hc14 : Chg (fun _ => False) w1 w4 := hc3.trans hc4 fun n hn h => by omega
    have hc04 := hc1.trans hc14 fun _ _ h => h
    refine wp_seq_k fun K3 hK3 => ?_; refine zac ?_
    refine wl_loadAgg (b := w1.heap.size) (o := 0) (n := 2) (by kernel_rfl) (by kernel_rfl) (by simp [evb, kb, hN, sdb]) hb4 (by simp) ?_
    rw [show (([.int .u32 x.1, .slice ob x.2.length cb] : List Value).drop 0).take 2 = [.int .u32 x.1, .slice ob x.2.length cb] from rfl]
    refine zau (fun args w => Try.call12 args w) (by simp only [List.map_toArray, List.map_cons, List.map_nil, evb, kb, hN, seval]; exact fits6_c (x := x) (w := w4) ⟨ob, cb, rfl, hx2, hx3, hx4.chg hc04 fun _ _ _ h => h⟩) ?_
    rintro _ w5 ⟨⟨b5, rfl⟩, hc5⟩
    have hc05 := hc04.trans hc5 fun _ _ h => h
    (repeat ((with_reducible refine zaj ?_ ?_ ?_); (· simp [evb, pvb, rnb, kb, hN, dyb, sdb] <;> omega); (· kernel_rfl); try simp only [evb, pvb, rnb, kb, hN, seval]))
    refine zab ?_; refine hK3 _ _ ?_; try clear hK3 K3
    cases b5 with
    | true =>
      refine wp_cond_false (by simp [evb, kb, hN, sdb]) ?_
      refine wp_skip ⟨⟨by simp only [zai, hN], by simp only [zaa, hD], by simp only [evb, kb, hN, seval, g8], hc05⟩, by simp only [evb, kb, hN, seval, g9], by simp only [evb, kb, hN, seval, g10]⟩
    | false =>
      refine wp_cond_true (by simp [evb, kb, hN, sdb]) ?_
      refine wp_seq_k fun K3 hK3 => ?_; refine zac ?_; (repeat ((with_reducible refine zaj ?_ ?_ ?_); (· simp [evb, pvb, rnb, kb, hN, dyb, sdb] <;> omega); (· kernel_rfl); try simp only [evb, pvb, rnb, kb, hN, seval])); refine zab ?_; refine hK3 _ _ ?_; try clear hK3 K3; refine wp_ret ⟨by simp [zaa, hD], ?_⟩; simp only [evb, kb, hN, seval]
      exact ⟨⟨_, rfl, fun _ => hn⟩, hc05⟩
  · clear hN hD
    rintro a1 w1 ⟨hN, hD, g8, hc1⟩
    refine hK _ _ ?_
    clear hK K
    refine wp_seq_k fun K hK => ?_; refine zac ?_; (repeat ((with_reducible refine zaj ?_ ?_ ?_); (· simp [evb, pvb, rnb, kb, hN, dyb, sdb] <;> omega); (· kernel_rfl); try simp only [evb, pvb, rnb, kb, hN, seval])); refine zab ?_; refine hK _ _ ?_; clear hK K; refine wp_ret ⟨by simp [zaa, hD], ?_⟩; simp only [evb, kb, hN, seval]
    exact ⟨⟨_, rfl, fun _ => hn⟩, hc1⟩
theorem tagsFit_c {w : World} {G : Nat → Prop} {l : zat} {v : Value} (hl : TgS w G l v) (hn : l.length ≤ 4611686018427387904) : zao Try.prog 5 #[v] w fun r w' => (∃ b, r = .bool b ∧ (b = true → l.length ≤ 50 ∧ ∀ x ∈ l, x.2.length ≤ 2000)) ∧ Chg (fun _ => False) w w' := by
  obtain ⟨oa, cap, rfl, hcap, hrow⟩ := hl
  refine zar Try.func5 rfl rfl Try.ntmps5 (by simp) ?_
  intro a hN hD hargs
  have h0 : get a 0 = .slice oa l.length cap := hargs 0 _ rfl
  refine wp_seq_k fun K hK => ?_; refine zac ?_; (repeat ((with_reducible refine zaj ?_ ?_ ?_); (· simp [evb, pvb, rnb, kb, hN, dyb, sdb] <;> omega); (· kernel_rfl); try simp only [evb, pvb, rnb, kb, hN, seval])); refine zab ?_; refine hK _ _ ?_; clear hK K
  refine wp_seq_k fun K hK => ?_; refine wp_seq_k fun K1 hK1 => ?_; refine zac ?_; (repeat ((with_reducible refine zaj ?_ ?_ ?_); (· simp [evb, pvb, rnb, kb, hN, h0, dyb, sdb] <;> omega); (· kernel_rfl); try simp only [evb, pvb, rnb, kb, hN, seval, h0])); refine zab ?_; refine hK1 _ _ ?_; try clear hK1 K1
  refine wp_range (n := l.length) (fun i a' w' => a'.tmps.size = 19 ∧ a'.defers = [] ∧ get a' 0 = .slice oa l.length cap ∧ get a' 5 = .slice oa l.length cap ∧ (∀ x ∈ l.take i, x.2.length ≤ 2000) ∧ Chg (fun _ => False) w w') 19 (by omega)
    (by simp only [evb, kb, hN, seval]; try rfl) (by simp only [evb, kb, hN, seval]) ⟨by simp only [evb, kb, hN, seval], by simp [zaa, hD], by simp only [evb, kb, hN, seval, h0], by simp only [evb, kb, hN, seval], by simp, Chg.refl _ _⟩ ?_ ?_ (by decide) ?_ ?_
  · rintro i a w ⟨h, _⟩; exact h
  · rintro i a w t v ht ⟨k1, k2, k3, k4, k5⟩
    rcases ht with rfl | rfl | rfl <;> exact ⟨by rw [zai]; exact k1, by rw [zaa]; exact k2, by rw [zal (by decide)]; exact k3, by rw [zal (by decide)]; exact k4, k5⟩
  · clear hN hD h0
    rintro i a1 w1 hi ⟨hN, hD, h0, g5, hall, hc1⟩ g6 g7
    have hx : l[i]? = some l[i] := by simp [hi]
    generalize l[i] = x at hx
    rcases hrow with rfl | ⟨b, o, cs, T, rfl, hGb, hb, htl⟩
    · simp at hi
    obtain ⟨hcx, hlx⟩ := htl.get hx
    obtain ⟨ob, cb, hx1, hx2, hx3, hx4⟩ := hcx
    have hb1 : Rbk w1 b cs T := hb.chg hc1 (fun h => h)
    rw [List.length_drop] at hlx
    rw [List.drop_drop] at hx1
    refine wp_seq_k fun K3 hK3 => ?_; refine zac ?_
    refine wl_indexAddr (b := b) (o := o) (k := .i64) (i := i) (n := 2) (len := l.length) (cap := cap) (by kernel_rfl) (by simp [evb, kb, hN, g5, sdb]) (by simp [evb, kb, hN, g7, sdb]) hi ?_
    refine wl_loadAgg_r (b := b) (o := o + i * 2) (n := 2) (by kernel_rfl) (by kernel_rfl) (by simp [evb, kb, hN, sdb]) hb1 (by omega) ?_
    rw [hx1]
    refine wl_allocA (z := aggOf [.int .u32 0, .slice none 0 0]) (fun w => Try.zeroValue37 w) fun w3 hc3 hb3 hs3 => ?_
    refine wl_storeAll (b := w1.heap.size) (n := 2) (l' := [.int .u32 x.1, .slice ob x.2.length cb]) (by kernel_rfl) (by simp [evb, kb, hN, sdb]) (by simp [evb, kb, hN, sdb]; rfl) hb3 rfl (by intro y hy; simp only [List.mem_cons, List.not_mem_nil, or_false] at hy; rcases hy with rfl | rfl <;> rfl) rfl fun w4 hb4 hc4 => ?_
    refine zab ?_; refine hK3 _ _ ?_; try clear hK3 K3
    have hc14 : Chg (fun _ => False) w1 w4 := hc3.trans hc4 fun n hn h => by omega
    have hc04 := hc1.trans hc14 fun _ _ h => h
    refine wp_seq_k fun K3 hK3 => ?_; refine zac ?_
    refine wl_fieldAddr (b := w1.heap.size) (o := 0) (off := 1) (n := 1) (by kernel_rfl) (by simp [evb, kb, hN, sdb]) ?_
    refine wl_load (b := w1.heap.size) (o := 0 + 1) (by kernel_rfl) (by simp [evb, kb, hN, sdb]) hb4 (v := .slice ob x.2.length cb) rfl ?_
    (repeat ((with_reducible refine zaj ?_ ?_ ?_); (· simp [evb, pvb, rnb, kb, hN, dyb, sdb] <;> omega); (· kernel_rfl); try simp only [evb, pvb, rnb, kb, hN, seval]))
    refine zab ?_; refine hK3 _ _ ?_; try clear hK3 K3
    by_cases hle : x.2.length ≤ 2000
    · have e : decide ((2000 : Int) < (x.2.length : Int)) = false := decide_eq_false (by omega)
      refine wp_cond_false (by simp [evb, kb, hN, e, sdb]) ?_
      refine wp_skip ⟨⟨by simp only [zai, hN], by simp only [zaa, hD], by simp only [evb, kb, hN, seval, h0], by simp only [evb, kb, hN, seval, g5], ?_, hc04⟩, by simp only [evb, kb, hN, seval, g6], by simp only [evb, kb, hN, seval, g7]⟩
      intro y hy
      rw [List.take_succ, hx] at hy
      rcases List.mem_append.1 hy with h | h
      · exact hall y h
      · simp only [Option.toList_some, List.mem_singleton] at h
        subst h; exact hle
    · have e : decide ((2000 : Int) < (x.2.length : Int)) = true := decide_eq_true (by omega)
      refine wp_cond_true (by simp [evb, kb, hN, e, sdb]) ?_
      refine wp_seq_k fun K3 hK3 => ?_; refine zac ?_; (repeat ((with_reducible refine zaj ?_ ?_ ?_); (· simp [evb, pvb, rnb, kb, hN, dyb, sdb] <;> omega); (· kernel_rfl); try simp only [evb, pvb, rnb, kb, hN, seval])); refine zab ?_; refine hK3 _ _ ?_; try clear hK3 K3; refine wp_ret ⟨by simp [zaa, hD], ?_⟩; simp only [evb, kb, hN, seval]
      exact ⟨⟨_, rfl, fun h => by cases h⟩, hc04⟩
  · clear hN hD h0
    rintro a1 w1 ⟨hN, hD, h0, g5, hall, hc1⟩
    refine hK _ _ ?_
    clear hK K
    refine wp_seq_k fun K hK => ?_; refine zac ?_; (repeat ((with_reducible refine zaj ?_ ?_ ?_); (· simp [evb, pvb, rnb, kb, hN, h0, dyb, sdb] <;> omega); (· kernel_rfl); try simp only [evb, pvb, rnb, kb, hN, seval, h0])); refine zab ?_; refine hK _ _ ?_; clear hK K; refine wp_ret ⟨by simp [zaa, hD], ?_⟩; simp only [evb, kb, hN, seval]
    rw [List.take_length] at hall
    refine ⟨⟨_, rfl, fun h => ⟨?_, hall⟩⟩, hc1⟩
    have := of_decide_eq_true h
    omega
end Go.Proofs.Ytbbocmkcciemdaa
namespace Go.Proofs.Ytbbocmkcciemdaa
set_option linter.all false
open Go.RowKit
set_option maxRecDepth 10000
set_option maxHeartbeats 2000000
theorem TgL.append {w : World} {G : Nat → Prop} : ∀ {l m : zat} {cs vs : List Value}, TgL w G l cs → cs.length = l.length * 2 → TgL w G m vs → TgL w G (l ++ m) (cs ++ vs)
  | [], m, cs, vs, _, h0, hx => by
    have : cs = [] := List.eq_nil_of_length_eq_zero (by simpa using h0)
    subst this
    exact hx
  | y :: r, m, cs, vs, ⟨h1, h2⟩, h0, hx => by
    simp only [List.length_cons] at h0
    refine ⟨?_, ?_⟩
    · rw [List.take_append_of_le_length (by omega)]; exact h1
    · rw [List.drop_append_of_le_length (by omega)]
      exact TgL.append h2 (by rw [List.length_drop]; omega) hx
theorem TgL.len {w : World} {G : Nat → Prop} : ∀ {l : zat} {vs : List Value}, TgL w G l vs → l.length * 2 ≤ vs.length
  | [], vs, _ => by simp
  | x :: r, vs, ⟨h1, h2⟩ => by
    have a := h1.two
    have b := TgL.len h2
    rw [List.length_take] at a
    rw [List.length_drop] at b
    simp only [List.length_cons]; omega
theorem TgL.one {w : World} {G : Nat → Prop} : ∀ {l : zat} {vs : List Value}, TgL w G l vs → ∀ u ∈ vs.take (l.length * 2), u.oneCell' = true
  | [], vs, _, u, hu => by simp at hu
  | x :: r, vs, ⟨h1, h2⟩, u, hu => by
    have a := h1.two
    have e : vs = vs.take 2 ++ vs.drop 2 := (List.take_append_drop 2 vs).symm
    rw [e, List.length_cons, show (r.length + 1) * 2 = (vs.take 2).length + r.length * 2 by omega, List.take_length_add_append] at hu
    rcases List.mem_append.1 hu with h | h
    · obtain ⟨ob, cb, k1, _⟩ := h1
      rw [k1] at h
      simp only [List.mem_cons, List.not_mem_nil, or_false] at h
      rcases h with rfl | rfl <;> rfl
    · exact TgL.one h2 u h
theorem TgL.fit {w : World} {G : Nat → Prop} {l : zat} {vs : List Value} (h : TgL w G l vs) : TgL w G l (vs.take (l.length * 2)) := TgL.of fun i x hx => by
  have hi := (List.getElem?_eq_some_iff.1 hx).1
  rw [List.drop_take, List.take_take, Nat.min_eq_left (by omega)]
  exact (h.get hx).1
theorem uki_src {E : Nat} {w : World} {base : Nat} {G : Nat → Prop} {acc : zat} {v : Value} (h : UkI E w base G acc v) :
    ∃ oa cap, v = .slice oa acc.length cap ∧ acc.length ≤ cap ∧ (acc = [] ∨ ∃ b o cs T, oa = some ⟨b, o, none⟩ ∧ Rbk w b cs T ∧ TgL w G acc (cs.drop o)) := by
  by_cases h0 : 0 < acc.length
  · obtain ⟨g, cap, C, rfl, hb, hbC, hl, hcap, htl⟩ := h.some h0
    exact ⟨_, cap, rfl, hcap, .inr ⟨g, 0, C, E, rfl, hbC.r, htl⟩⟩
  · have : acc = [] := List.eq_nil_of_length_eq_zero (by omega)
    subst this
    obtain ⟨cs, h1, _⟩ := h.row
    rcases h1.2 with ⟨rfl, hn⟩ | ⟨g, cap, cur, rfl, hbg, hg, _⟩
    · exact ⟨none, 0, rfl, Nat.le_refl _, .inl rfl⟩
    · exact ⟨_, cap, rfl, Nat.zero_le _, .inl rfl⟩
section
variable {ops : Array Oper} {Q : Exit → Act → World → Prop} {a : Act} {w : World} {rest : List Oper} {d : Option Nat} {ty : TypeId} {pos : String} {af : Array Edge}
theorem wl_appTg {E t : Nat} (hT : rowB Try.prog t E 2 32 = true) {x y : Operand} {base c : Nat} {G : Nat → Prop} {acc l : zat} {v : Value} {oa : Option Addr} (hx : a.eval x = v) (hI : UkI E w base G acc v) (hy : a.eval y = .slice oa l.length c)
    (hsrc : l = [] ∨ ∃ b o cs T, oa = some ⟨b, o, none⟩ ∧ Rbk w b cs T ∧ TgL w G l (cs.drop o)) (hlim : acc.length + l.length ≤ 4000000) (hG : ∀ k, G k → k < base) (hbase : base ≤ w.heap.size)
    (h : ∀ v' w', UkI E w' base G (acc ++ l) v' → Chg (fun k => base ≤ k ∧ k < w.heap.size) w w' → WL Try.prog ops Q rest (a.put d v') w') :
    WL Try.prog ops Q (⟨d, .call { callee := .builtin .append, args := #[x, y], argTypes := #[t, t] }, ty, pos, af, none⟩ :: rest) a w := by
  obtain ⟨xs, q1, q2⟩ := hI.row
  have hlt := World.ownsRow.lt q1
  have key : ∀ (ad : Addr) (news : List Value), oa = some ad → news.length = l.length * 2 → (∀ j u, news[j]? = some u → w.cell? (ad.add j) = some u) → (∀ u ∈ news, u.oneCell' = true) → TgL w G l news →
      WL Try.prog ops Q (⟨d, .call { callee := .builtin .append, args := #[x, y], argTypes := #[t, t] }, ty, pos, af, none⟩ :: rest) a w := by
    intro ad news e hl hcell h1 ht
    obtain ⟨v', w', hr, ha⟩ := run_appendRow (P := Try.prog) hT (by decide) ty q1 ad l.length c news hl hcell h1 (by omega) (by omega) hbase
    have hc : Chg (fun k => base ≤ k ∧ k < w.heap.size) w w' := ha.chg.mono fun k _ hk => hlt k hk
    refine zak rfl (v := v') (w' := w') (by simp [execOp, resolve, invoke, builtin, hx, hy, e, hr]) (h v' w' ⟨xs ++ news, by rw [List.length_append]; exact ha.own, ?_⟩ hc)
    exact (TgL.append q2 q1.1 ht).stay (Stay.of hc fun k hk _ h => by have := hG k hk; omega)
  rcases hsrc with rfl | ⟨b, o, cs, T, rfl, hb, ht⟩
  · cases oa with
    | some ad => exact key ad [] rfl rfl (fun j u h => by simp at h) (fun u h => by simp at h) trivial
    | none =>
      obtain ⟨hu, i, z, hi, _, s1, _, _⟩ := rowB_out hT
      have hcap : ∃ oa' n' c', v = .slice oa' n' c' ∧ n' ≤ c' := by
        rcases q1.2 with ⟨rfl, h0⟩ | ⟨g, cap, cur, rfl, _, _, hn, _⟩
        · exact ⟨_, _, _, rfl, Nat.le_refl _⟩
        · exact ⟨_, _, _, rfl, hn⟩
      have hr : (Builtin.append_ #[t, t] ty #[v, .slice none 0 c]).run Try.prog w = .ok v w := by
        obtain ⟨oa', n', c', rfl, hn'⟩ := hcap
        cases oa' <;> simp [Builtin.append_, underlying, hu, sizeOf, typeInfo, hi, Builtin.lenOf, hn', Builtin.firstCells, storeCells]
      refine zak rfl (v := v) (w' := w) (by simp only [List.length_nil] at hy; simp [execOp, resolve, invoke, builtin, hx, hy, hr]) (h v w (by rw [List.append_nil]; exact hI) (Chg.refl _ _))
  · have hln := ht.len
    refine key ⟨b, o, none⟩ ((cs.drop o).take (l.length * 2)) rfl (by rw [List.length_take]; omega) (fun j u hj => ?_) ht.one ht.fit
    have hjn : j < l.length * 2 := by have := (List.getElem?_eq_some_iff.1 hj).1; rw [List.length_take] at this; omega
    rw [add_lit, hb.cell, ← seg_get hjn]; exact hj
theorem wl_sliceFrom {t s n len cap : Nat} {k : IntKind} {oa : Option Addr} {x y : Operand} (ht : sliceB Try.prog t s = true) (hx : a.eval x = .slice oa len cap) (hy : a.eval y = .int k n) (hn : n ≤ len) (hc : len ≤ cap)
    (h : ∀ oa', WL Try.prog ops Q rest (a.put d (.slice oa' (len - n) (cap - n))) w) : WL Try.prog ops Q (⟨d, .slice t x (some y) none none, ty, pos, af, none⟩ :: rest) a w := by
  have hr := run_slc (P := Try.prog) (w := w) (T := t) (s := s) (n := len) (c := cap) (oa := oa) (lo := some (.int k n)) (hi := none) (mx := none) ht (by simp [slcOK, optOK, optI]; omega)
  exact zak rfl (by simp only [execOp, Sem.run_bind, hx, hy, Option.map_some, Option.map_none, hr]; rfl) (h _)
theorem wl_lit0 {t e sz : Nat} {z : Value} (ht : Try.prog.underlying t = some (.slice e)) (hs : sizeB Try.prog e sz = true) (hz : zeroB Try.prog e z) (h0 : 0 < sz)
    (h : ∀ w', Chg (fun _ => False) w w' → Blk w' w.heap.size [] e → w'.heap.size = w.heap.size + 1 → WL Try.prog ops Q rest (a.put d (.slice (some ⟨w.heap.size, 0, none⟩) 0 0)) w') :
    WL Try.prog ops Q (⟨d, .buildSlice t 0 #[], ty, pos, af, none⟩ :: rest) a w := by
  have hr := run_buildSlice (P := Try.prog) (w := w) ht hs hz [] (fun v hv => by simp at hv) (by simp) h0
  simp only [List.length_nil, List.zipIdx_nil, List.map_nil, List.flatMap_nil] at hr
  refine zak rfl (v := .slice (some ⟨w.heap.size, 0, none⟩) 0 0) (w' := w.alloc (.cells #[] e)) (by simp [execOp, hr]) (h _ (Chg.alloc _ _ _) (Blk.new w [] e) ?_)
  show (w.heap.push _).size = _
  rw [Array.size_push]
end
theorem uki_blk0 {E : Nat} {w : World} {base b : Nat} {G : Nat → Prop} (hb : Blk w b [] E) (hbase : base ≤ b) : UkI E w base G [] (.slice (some ⟨b, 0, none⟩) 0 0) :=
  ⟨[], ⟨rfl, .inr ⟨b, 0, #[], rfl, hbase, hb, Nat.le_refl _, by unfold maxLen; omega, rfl, rfl⟩⟩, trivial⟩
theorem chg_own {w w' : World} (h : Chg (fun k => w.heap.size ≤ k) w w') : Chg (fun _ => False) w w' := h.mono fun _ hn hk => by omega
theorem tagsOf_c {w : World} {G : Nat → Prop} {l : zat} {v : Value} (hl : TgS w G l v) (hn : l.length ≤ 1048576) : zao Try.prog 11 #[v] w fun r w' => TgS w' (fun g => (G g ∧ g < w.heap.size) ∨ w.heap.size ≤ g) l r ∧ Chg (fun _ => False) w w' := by
  obtain ⟨oa, cap, rfl, hcap, hrow⟩ := hl
  refine zar Try.func11 rfl rfl Try.ntmps11 (by simp) ?_
  intro a hN hD hargs
  have h0 : get a 0 = .slice oa l.length cap := hargs 0 _ rfl
  refine wp_seq_k fun K hK => ?_; refine zac ?_; (repeat ((with_reducible refine zaj ?_ ?_ ?_); (· simp [evb, pvb, rnb, kb, hN, dyb, sdb] <;> omega); (· kernel_rfl); try simp only [evb, pvb, rnb, kb, hN, seval])); refine zab ?_; refine hK _ _ ?_; clear hK K
  refine wp_seq_k fun K hK => ?_; refine zac ?_; (repeat ((with_reducible refine zaj ?_ ?_ ?_); (· simp [evb, pvb, rnb, kb, hN, dyb, sdb] <;> omega); (· kernel_rfl); try simp only [evb, pvb, rnb, kb, hN, seval])); refine zab ?_; refine hK _ _ ?_; clear hK K
  refine wp_seq_k fun K hK => ?_; refine wp_seq_k fun K1 hK1 => ?_; refine zac ?_; (repeat ((with_reducible refine zaj ?_ ?_ ?_); (· simp [evb, pvb, rnb, kb, hN, h0, dyb, sdb] <;> omega); (· kernel_rfl); try simp only [evb, pvb, rnb, kb, hN, seval, h0])); refine zab ?_; refine hK1 _ _ ?_; try clear hK1 K1
  refine wp_range (n := l.length) (fun i a' w' => ∃ v3, a'.tmps.size = 22 ∧ a'.defers = [] ∧ get a' 6 = .slice oa l.length cap ∧ get a' 3 = v3 ∧ UkI 53 w' w.heap.size (fun g => G g ∧ g < w.heap.size) (l.take i) v3 ∧ Chg (fun k => w.heap.size ≤ k) w w') 22 (by omega)
    (by simp only [evb, kb, hN, seval]; try rfl) (by simp only [evb, kb, hN, seval]) ⟨.slice none 0 0, by simp only [evb, kb, hN, seval], by simp [zaa, hD], by simp only [evb, kb, hN, seval], by simp only [evb, kb, hN, seval], UkI.nil _ _ _ _, Chg.refl _ _⟩ ?_ ?_ (by decide) ?_ ?_
  · rintro i a w ⟨_, h, _⟩; exact h
  · rintro i a w t v ht ⟨v3, k1, k2, k3, k4, k5⟩
    rcases ht with rfl | rfl | rfl <;> exact ⟨v3, by rw [zai]; exact k1, by rw [zaa]; exact k2, by rw [zal (by decide)]; exact k3, by rw [zal (by decide)]; exact k4, k5⟩
  · clear hN hD h0
    rintro i a1 w1 hi ⟨v3, hN, hD, g6, g3, hU, hc1⟩ g7 g8
    have hx : l[i]? = some l[i] := by simp [hi]
    generalize l[i] = x at hx
    rcases hrow with rfl | ⟨b, o, cs, T, rfl, hGb, hb, htl⟩
    · simp at hi
    obtain ⟨hcx, hlx⟩ := htl.get hx
    obtain ⟨ob, cb, hx1, hx2, hx3, hx4⟩ := hcx
    have hb1 : Rbk w1 b cs T := hb.chg hc1 (by have := hb.lt; omega)
    have hs1 := hc1.size
    rw [List.length_drop] at hlx
    rw [List.drop_drop] at hx1
    refine wp_seq_k fun K3 hK3 => ?_; refine zac ?_
    refine wl_indexAddr (b := b) (o := o) (k := .i64) (i := i) (n := 2) (len := l.length) (cap := cap) (by kernel_rfl) (by simp [evb, kb, hN, g6, sdb]) (by simp [evb, kb, hN, g8, sdb]) hi ?_
    refine wl_loadAgg_r (b := b) (o := o + i * 2) (n := 2) (by kernel_rfl) (by kernel_rfl) (by simp [evb, kb, hN, sdb]) hb1 (by omega) ?_
    rw [hx1]
    refine wl_allocA (z := aggOf [.int .u32 0, .slice none 0 0]) (fun w => Try.zeroValue37 w) fun w3 hc3 hb3 hs3 => ?_
    refine wl_storeAll (b := w1.heap.size) (n := 2) (l' := [.int .u32 x.1, .slice ob x.2.length cb]) (by kernel_rfl) (by simp [evb, kb, hN, sdb]) (by simp [evb, kb, hN, sdb]; rfl) hb3 rfl (by intro y hy; simp only [List.mem_cons, List.not_mem_nil, or_false] at hy; rcases hy with rfl | rfl <;> rfl) rfl fun w4 hb4 hc4 => ?_
    refine zab ?_; refine hK3 _ _ ?_; try clear hK3 K3
    have hc14 : Chg (fun _ => False) w1 w4 := hc3.trans hc4 fun n hn h => by omega
    refine zac ?_
    (iterate 1 ((with_reducible refine zaj ?_ ?_ ?_); (· simp [evb, pvb, rnb, kb, hN, g3, dyb, sdb] <;> omega); (· kernel_rfl); try simp only [evb, pvb, rnb, kb, hN, seval, g3]))
    refine wl_fieldAddr (b := w1.heap.size) (o := 0) (off := 0) (n := 1) (by kernel_rfl) (by simp [evb, kb, hN, sdb]) ?_
    refine wl_load (b := w1.heap.size) (o := 0 + 0) (by kernel_rfl) (by simp [evb, kb, hN, sdb]) hb4 (v := .int .u32 x.1) rfl ?_
    refine wl_fieldAddr (b := w1.heap.size) (o := 0) (off := 1) (n := 1) (by kernel_rfl) (by simp [evb, kb, hN, sdb]) ?_
    refine wl_load (b := w1.heap.size) (o := 0 + 1) (by kernel_rfl) (by simp [evb, kb, hN, sdb]) hb4 (v := .slice ob x.2.length cb) rfl ?_
    refine wl_build (l := [.int .u32 x.1, .slice ob x.2.length cb]) (by simp only [List.map_toArray, List.map_cons, List.map_nil, evb, kb, hN, seval]; kernel_rfl) ?_
    refine wl_lit1 (e := 53) (sz := 2) (z := aggOf [.int .u32 0, .slice none 0 0]) (l := [.int .u32 x.1, .slice ob x.2.length cb]) (by kernel_rfl) (by kernel_rfl) (fun w => Try.zeroValue53 w) (by simp [evb, kb, hN, sdb]) rfl (by decide) (by decide) fun w5 hc5 hb5 hs5 => ?_
    have hc15 : Chg (fun _ => False) w1 w5 := hc14.trans hc5 fun _ _ h => h
    have hc05 : Chg (fun k => w.heap.size ≤ k) w w5 := hc1.trans hc15 fun _ _ h => h.elim
    have hU5 := hU.chg hc15 (fun _ _ _ h => h) (fun _ _ _ h => h)
    have hx5 : zad w5 (fun g => G g ∧ g < w.heap.size) ob x.2 := hx4.stay ⟨fun k hk hg => ⟨hc05.block k hk (by omega), hg, hk⟩⟩
    refine wl_appTg (E := 53) (by kernel_rfl) (acc := l.take i) (l := [x]) (c := 1) (v := v3) (by simp [evb, kb, hN, g3, sdb]) hU5 (by simp [evb, kb, hN, sdb]) (.inr ⟨w4.heap.size, 0, _, _, rfl, hb5.r, ⟨ob, cb, rfl, hx2, hx3, hx5⟩, trivial⟩) (by rw [List.length_take]; simp only [List.length_singleton]; omega) (fun _ h => h.2) (by have := hc05.size; omega) fun v6 w6 hU6 hc6 => ?_
    (repeat ((with_reducible refine zaj ?_ ?_ ?_); (· simp [evb, pvb, rnb, kb, hN, dyb, sdb] <;> omega); (· kernel_rfl); try simp only [evb, pvb, rnb, kb, hN, seval]))
    refine zab ⟨⟨v6, by simp only [zai, hN], by simp only [zaa, hD], by simp only [evb, kb, hN, seval, g6], by simp only [evb, kb, hN, seval], ?_, hc05.trans hc6 fun _ _ h => h.1⟩, by simp only [evb, kb, hN, seval, g7], by simp only [evb, kb, hN, seval, g8]⟩
    rw [List.take_succ, hx]; exact hU6
  · clear hN hD h0
    rintro a1 w1 ⟨v3, hN, hD, g6, g3, hU, hc1⟩
    refine hK _ _ ?_
    clear hK K
    refine wp_seq_k fun K hK => ?_; refine zac ?_; (repeat ((with_reducible refine zaj ?_ ?_ ?_); (· simp [evb, pvb, rnb, kb, hN, g3, dyb, sdb] <;> omega); (· kernel_rfl); try simp only [evb, pvb, rnb, kb, hN, seval, g3])); refine zab ?_; refine hK _ _ ?_; clear hK K; refine wp_ret ⟨by simp [zaa, hD], ?_⟩; simp only [evb, kb, hN, seval]
    rw [List.take_length] at hU
    exact ⟨hU.tgs, chg_own hc1⟩
end Go.Proofs.Ytbbocmkcciemdaa
namespace Go.Proofs.Ytbbocmkcciemdaa
set_option linter.all false
open Go.RowKit
set_option maxRecDepth 10000
set_option maxHeartbeats 4000000
theorem uki_base {E : Nat} {w : World} {base base' : Nat} {G : Nat → Prop} {acc : zat} {v : Value} (h : UkI E w base' G acc v) (hb : base ≤ base') : UkI E w base G acc v := by
  obtain ⟨cs, h1, h2⟩ := h.row
  refine ⟨cs, ⟨h1.1, ?_⟩, h2⟩
  rcases h1.2 with hn | ⟨g, cap, cur, rfl, hbg, rest⟩
  · exact .inl hn
  · exact .inr ⟨g, cap, cur, rfl, by omega, rest⟩
theorem uki_len {E : Nat} {w : World} {base : Nat} {G : Nat → Prop} {acc : zat} {v : Value} (h : UkI E w base G acc v) : ∃ oa cap, v = .slice oa acc.length cap ∧ acc.length ≤ cap := by
  obtain ⟨oa, cap, h1, h2, _⟩ := uki_src h
  exact ⟨oa, cap, h1, h2⟩
theorem TgL.key {w : World} {G : Nat → Prop} {l : zat} {C : List Value} {i : Nat} {x : Nat × Bs} (h : TgL w G l C) (hx : l[i]? = some x) : C[i * 2]? = some (.int .u32 x.1) := by
  obtain ⟨⟨ob, cb, h1, _⟩, _⟩ := h.get hx
  have := congrArg (·[0]?) h1
  simp only [List.getElem?_cons_zero] at this
  rw [List.getElem?_take_of_lt (by omega), List.getElem?_drop] at this
  simpa using this
theorem rising_lt : ∀ {l : zat} {i j : Nat} {x y : Nat × Bs}, Rising l → i < j → l[i]? = some x → l[j]? = some y → x.1 < y.1
  | [], i, j, x, y, _, _, hx, _ => by simp at hx
  | z :: r, 0, j + 1, x, y, h, _, hx, hy => by
    simp at hx hy; subst hx
    exact h.1 y (List.mem_of_getElem? hy)
  | z :: r, i + 1, j + 1, x, y, h, hij, hx, hy => rising_lt (l := r) (i := i) (j := j) h.2 (by omega) (by simpa using hx) (by simpa using hy)
theorem tgFacts : eSz Try.prog 32 = 2 ∧ fOff Try.prog 53 0 = 0 ∧ fOff Try.prog 53 1 = 1 := ⟨by kernel_rfl, by kernel_rfl, by kernel_rfl⟩
theorem lastTags_c {w : World} {G : Nat → Prop} {l : zat} {v : Value} (hl : TgS w G l v) (hr : Rising l) (hn : l.length ≤ 1048576) : zao Try.prog 10 #[v] w fun r w' => TgS w' (fun g => (G g ∧ g < w.heap.size) ∨ w.heap.size ≤ g) l r ∧ Chg (fun _ => False) w w' := by
  obtain ⟨oa, cap, rfl, hcap, hrow⟩ := hl
  refine zar Try.func10 rfl rfl Try.ntmps10 (by simp) ?_
  intro a hN hD hargs
  have h0 : get a 0 = .slice oa l.length cap := hargs 0 _ rfl
  refine wp_seq_k fun K hK => ?_; refine zac ?_; (repeat ((with_reducible refine zaj ?_ ?_ ?_); (· simp [evb, pvb, rnb, kb, hN, dyb, sdb] <;> omega); (· kernel_rfl); try simp only [evb, pvb, rnb, kb, hN, seval])); refine zab ?_; refine hK _ _ ?_; clear hK K
  refine wp_seq_k fun K hK => ?_; refine zac ?_; (repeat ((with_reducible refine zaj ?_ ?_ ?_); (· simp [evb, pvb, rnb, kb, hN, dyb, sdb] <;> omega); (· kernel_rfl); try simp only [evb, pvb, rnb, kb, hN, seval])); refine zab ?_; refine hK _ _ ?_; clear hK K
  refine wp_seq_k fun K hK => ?_; refine wp_seq_k fun K1 hK1 => ?_; refine zac ?_; (repeat ((with_reducible refine zaj ?_ ?_ ?_); (· simp [evb, pvb, rnb, kb, hN, h0, dyb, sdb] <;> omega); (· kernel_rfl); try simp only [evb, pvb, rnb, kb, hN, seval, h0])); refine zab ?_; refine hK1 _ _ ?_; try clear hK1 K1
  refine wp_range (n := l.length) (fun i a' w' => ∃ v3, a'.tmps.size = 64 ∧ a'.defers = [] ∧ get a' 8 = .slice oa l.length cap ∧ get a' 3 = v3 ∧ UkI 53 w' w.heap.size (fun g => G g ∧ g < w.heap.size) (l.take i) v3 ∧ Chg (fun k => w.heap.size ≤ k) w w') 64 (by omega)
    (by simp only [evb, kb, hN, seval]; try rfl) (by simp only [evb, kb, hN, seval]) ⟨.slice none 0 0, by simp only [evb, kb, hN, seval], by simp [zaa, hD], by simp only [evb, kb, hN, seval], by simp only [evb, kb, hN, seval], UkI.nil _ _ _ _, Chg.refl _ _⟩ ?_ ?_ (by decide) ?_ ?_
  · rintro i a w ⟨_, h, _⟩; exact h
  · rintro i a w t v ht ⟨v3, k1, k2, k3, k4, k5⟩
    rcases ht with rfl | rfl | rfl <;> exact ⟨v3, by rw [zai]; exact k1, by rw [zaa]; exact k2, by rw [zal (by decide)]; exact k3, by rw [zal (by decide)]; exact k4, k5⟩
  · clear hN hD h0
    rintro i a1 w1 hi ⟨v3, hN, hD, g8, g3, hU, hc1⟩ g9 g10
    have hx : l[i]? = some l[i] := by simp [hi]
    generalize l[i] = x at hx
    rcases hrow with rfl | ⟨b, o, cs, T, rfl, hGb, hb, htl⟩
    · simp at hi
    obtain ⟨hcx, hlx⟩ := htl.get hx
    obtain ⟨ob, cb, hx1, hx2, hx3, hx4⟩ := hcx
    have hb1 : Rbk w1 b cs T := hb.chg hc1 (by have := hb.lt; omega)
    have hs1 := hc1.size
    rw [List.length_drop] at hlx
    rw [List.drop_drop] at hx1
    obtain ⟨acc, hacc⟩ : ∃ acc, acc = l.take i := ⟨_, rfl⟩
    have hal : acc.length = i := by rw [hacc, List.length_take]; omega
    have hlt : ∀ (j : Nat) (y : Nat × Bs), acc[j]? = some y → y.1 < x.1 := fun j y hy => by
      have hj : j < i := by rw [← hal]; exact (List.getElem?_eq_some_iff.1 hy).1
      rw [hacc, List.getElem?_take_of_lt hj] at hy
      exact rising_lt hr hj hy hx
    rw [← hacc] at hU
    refine wp_seq_k fun K3 hK3 => ?_; refine zac ?_
    refine wl_indexAddr (b := b) (o := o) (k := .i64) (i := i) (n := 2) (len := l.length) (cap := cap) (by kernel_rfl) (by simp [evb, kb, hN, g8, sdb]) (by simp [evb, kb, hN, g10, sdb]) hi ?_
    refine wl_loadAgg_r (b := b) (o := o + i * 2) (n := 2) (by kernel_rfl) (by kernel_rfl) (by simp [evb, kb, hN, sdb]) hb1 (by omega) ?_
    rw [hx1]
    refine wl_allocA (z := aggOf [.int .u32 0, .slice none 0 0]) (fun w => Try.zeroValue53 w) fun w3 hc3 hb3 hs3 => ?_
    refine wl_storeAll (b := w1.heap.size) (n := 2) (l' := [.int .u32 x.1, .slice ob x.2.length cb]) (by kernel_rfl) (by simp [evb, kb, hN, sdb]) (by simp [evb, kb, hN, sdb]; rfl) hb3 rfl (by intro y hy; simp only [List.mem_cons, List.not_mem_nil, or_false] at hy; rcases hy with rfl | rfl <;> rfl) rfl fun w4 hb4 hc4 => ?_
    refine zab ?_; refine hK3 _ _ ?_; try clear hK3 K3
    have hc14 : Chg (fun _ => False) w1 w4 := hc3.trans hc4 fun n hn h => by omega
    clear hc3 hc4 hb3 hs3
    have hU4 := hU.chg hc14 (fun _ _ _ h => h) (fun _ _ _ h => h)
    have hc04 : Chg (fun k => w.heap.size ≤ k) w w4 := hc1.trans hc14 fun _ _ h => h.elim
    have hg8 := hb4.lt
    obtain ⟨p8, hp8, hp8w⟩ : ∃ p, p = w1.heap.size ∧ w.heap.size ≤ p := ⟨_, rfl, hs1⟩
    rw [← hp8] at hb4 hg8 ⊢
    obtain ⟨oa6, cap6, rfl, hc6⟩ := uki_len hU4
    rw [hal] at g3
    refine wp_seq_k fun K hK => ?_; refine zac ?_; (repeat ((with_reducible refine zaj ?_ ?_ ?_); (· simp [evb, pvb, rnb, kb, hN, dyb, sdb] <;> omega); (· kernel_rfl); try simp only [evb, pvb, rnb, kb, hN, seval])); refine zab ?_; refine hK _ _ ?_; clear hK K
    refine wp_seq_k fun K1 hK1 => ?_
    refine wp_block ?_
    refine wp_loop (fun a' w' => ∃ j : Nat, a'.tmps.size = 64 ∧ a'.defers = [] ∧ get a' 8 = .slice (some ⟨b, o, none⟩) l.length cap ∧ get a' 3 = .slice oa6 i cap6 ∧ get a' 5 = .pointer (some ⟨p8, 0, none⟩) ∧ get a' 6 = .int .i64 j ∧ get a' 9 = .int .i64 l.length ∧ get a' 10 = .int .i64 i ∧ j ≤ i ∧ Chg (fun _ => False) w4 w')
      (fun a' _ => i - (intOf (get a' 6)).toNat) ⟨0, by simp only [evb, kb, hN, seval], by simp [zaa, hD], by simp only [evb, kb, hN, seval, g8], by simp only [evb, kb, hN, seval, g3], by simp only [evb, kb, hN, seval], by simp only [evb, kb, hN, seval] <;> rfl, by simp only [evb, kb, hN, seval, g9], by simp only [evb, kb, hN, seval, g10], Nat.zero_le _, Chg.refl _ _⟩ ?_
    clear hN hD g8 g3 g9 g10
    rintro a2 w5 ⟨j, hN, hD, g8, g3, g5, g6, g9, g10, hj, hc5⟩
    obtain ⟨e2, o0, o1⟩ := tgFacts
    have hb5 := hb4.chg hc5 fun h => h
    have l8 := hb5.ld (i := 0) rfl
    have hU5 := hU4.chg hc5 (fun _ _ _ h => h) (fun _ _ _ h => h)
    refine wp_seq_k fun K2 hK2 => ?_; refine wp_seq_k fun K3 hK3 => ?_
    refine wp_ord (fun _ => False) follows_any (by kernel_rfl) ?_
    by_cases hjn : j < i
    · obtain ⟨y, hy⟩ : ∃ y, acc[j]? = some y := ⟨_, List.getElem?_eq_getElem (by omega)⟩
      obtain ⟨g, cap', C, hv6', hg, hbC, hlC, _, htC⟩ := hU5.some (by omega)
      rw [hal] at hv6'
      obtain ⟨rfl, rfl⟩ : oa6 = some ⟨g, 0, none⟩ ∧ cap6 = cap' := by simpa using hv6'
      have lC := hbC.ld (htC.key hy)
      have lC1 := lC.1
      have d1 : decide ((j : Int) < (i : Int)) = true := decide_eq_true (by omega)
      (repeat (first | (refine wf_p rfl rfl ?_ ?_ ?_ ?_; (· first | exact rdX_no | (refine ⟨?_⟩; simp [rxb]; done)); (· simp [evb, pvb, rnb, kb, hN, seval, g3, g6, g5, lC, l8, e2, o0, o1, d1, Nat.add_zero, dyb, sdb] <;> omega); (· kernel_rfl); try simp only [evb, pvb, rnb, kb, hN, seval, g3, g6, g5, lC, l8, e2, o0, o1, d1, Nat.add_zero]) | (refine wf_pg rfl rfl rfl ?_ rfl ?_ ?_ ?_ ?_; (· simp [evb, pvb, rnb, kb, hN, seval, g3, g6, g5, lC, l8, e2, o0, o1, d1, Nat.add_zero]; done); (· first | exact rdX_no | (refine ⟨?_⟩; simp [rxb]; done)); (· simp [evb, pvb, rnb, kb, hN, seval, g3, g6, g5, lC, l8, e2, o0, o1, d1, Nat.add_zero, dyb, sdb] <;> omega); (· kernel_rfl); try simp only [evb, pvb, rnb, kb, hN, seval, g3, g6, g5, lC, l8, e2, o0, o1, d1, Nat.add_zero]) | (refine wf_gno rfl rfl rfl ?_ ?_; (· simp [evb, pvb, rnb, kb, hN, seval, g3, g6, g5, lC, l8, e2, o0, o1, d1, Nat.add_zero]; done); try simp only [evb, pvb, rnb, kb, hN, seval, g3, g6, g5, lC, l8, e2, o0, o1, d1, Nat.add_zero]) | (refine wf_gnoU rfl rfl rfl ?_ ?_; (· simp [evb, pvb, rnb, kb, hN, seval, g3, g6, g5, lC, l8, e2, o0, o1, d1, Nat.add_zero]; done); try simp only [evb, pvb, rnb, kb, hN, seval, g3, g6, g5, lC, l8, e2, o0, o1, d1, Nat.add_zero])))
      refine wf_nil (by decide) ?_
      refine hK3 _ _ ?_
      have hlt' := hlt j y hy
      refine wp_cond_true (by simp only [evb, pvb, rnb, kb, hN, seval]; erw [lC1]; simp [cmp2, hlt']) ?_
      refine wp_skip (hK2 _ _ ?_)
      refine wp_block ?_
      refine zac ?_; (repeat ((with_reducible refine zaj ?_ ?_ ?_); (· simp [evb, pvb, rnb, kb, hN, g6, dyb, sdb] <;> omega); (· kernel_rfl); try simp only [evb, pvb, rnb, kb, hN, seval, g6])); refine zab ⟨⟨j + 1, by simp only [evb, kb, hN, seval], by simp [zaa, hD], by simp only [evb, pvb, rnb, kb, hN, seval, g8], by simp only [evb, pvb, rnb, kb, hN, seval, g3], by simp only [evb, pvb, rnb, kb, hN, seval, g5], by simp only [evb, pvb, rnb, kb, hN, seval]; rw [i64_id ((j : Int) + 1) (by omega)]; rfl, by simp only [evb, pvb, rnb, kb, hN, seval, g9], by simp only [evb, pvb, rnb, kb, hN, seval, g10], by omega, hc5.trans (Chg.drew _ _) fun _ _ h => h⟩, ?_⟩
      simp only [evb, pvb, rnb, kb, hN, seval, g6]
      rw [i64_id ((j : Int) + 1) (by omega)]
      simp only [intOf]
      omega
    have hji : j = i := by omega
    subst hji
    have d1 : decide ((j : Int) < (j : Int)) = false := decide_eq_false (by omega)
    (repeat (first | (refine wf_p rfl rfl ?_ ?_ ?_ ?_; (· first | exact rdX_no | (refine ⟨?_⟩; simp [rxb]; done)); (· simp [evb, pvb, rnb, kb, hN, seval, g3, g6, g5, l8, e2, o0, o1, d1, Nat.add_zero, dyb, sdb] <;> omega); (· kernel_rfl); try simp only [evb, pvb, rnb, kb, hN, seval, g3, g6, g5, l8, e2, o0, o1, d1, Nat.add_zero]) | (refine wf_pg rfl rfl rfl ?_ rfl ?_ ?_ ?_ ?_; (· simp [evb, pvb, rnb, kb, hN, seval, g3, g6, g5, l8, e2, o0, o1, d1, Nat.add_zero]; done); (· first | exact rdX_no | (refine ⟨?_⟩; simp [rxb]; done)); (· simp [evb, pvb, rnb, kb, hN, seval, g3, g6, g5, l8, e2, o0, o1, d1, Nat.add_zero, dyb, sdb] <;> omega); (· kernel_rfl); try simp only [evb, pvb, rnb, kb, hN, seval, g3, g6, g5, l8, e2, o0, o1, d1, Nat.add_zero]) | (refine wf_gno rfl rfl rfl ?_ ?_; (· simp [evb, pvb, rnb, kb, hN, seval, g3, g6, g5, l8, e2, o0, o1, d1, Nat.add_zero]; done); try simp only [evb, pvb, rnb, kb, hN, seval, g3, g6, g5, l8, e2, o0, o1, d1, Nat.add_zero]) | (refine wf_gnoU rfl rfl rfl ?_ ?_; (· simp [evb, pvb, rnb, kb, hN, seval, g3, g6, g5, l8, e2, o0, o1, d1, Nat.add_zero]; done); try simp only [evb, pvb, rnb, kb, hN, seval, g3, g6, g5, l8, e2, o0, o1, d1, Nat.add_zero])))
    refine wf_nil (by decide) ?_
    refine hK3 _ _ ?_
    refine wp_cond_false (by simp only [evb, pvb, rnb, kb, hN, seval]) ?_
    refine wp_exit ?_
    simp only [Exit.then, Exit.inBlock, if_pos]
    refine hK1 _ _ ?_
    refine wp_seq_k fun K4 hK4 => ?_
    have ins : ∀ a6 w6, a6.tmps.size = 64 → a6.defers = [] → get a6 8 = .slice (some ⟨b, o, none⟩) l.length cap → get a6 3 = .slice oa6 j cap6 → get a6 5 = .pointer (some ⟨p8, 0, none⟩) → get a6 6 = .int .i64 j → get a6 9 = .int .i64 l.length → get a6 10 = .int .i64 j → Chg (fun _ => False) w4 w6 → K4 a6 w6 := by
      clear hN hD g8 g3 g9 g10 g5 g6 hU5 hb5 l8 hc5 hK1 K1 hK2 K2 hK3 K3
      intro a6 w6 hN hD g8 g3 g5 g6 g9 g10 hc6
      have hb6 := hb4.chg hc6 fun h => h
      have hU6 := hU4.chg hc6 (fun _ _ _ h => h) (fun _ _ _ h => h)
      have hc06 : Chg (fun k => w.heap.size ≤ k) w w6 := hc04.trans hc6 fun _ _ h => h.elim
      have hs06 := hc06.size
      refine hK4 _ _ ?_
      clear hK4 K4
      refine wp_seq_k fun K5 hK5 => ?_; refine zac ?_
      refine wl_lit0 (e := 53) (sz := 2) (z := aggOf [.int .u32 0, .slice none 0 0]) (by kernel_rfl) (by kernel_rfl) (fun w => Try.zeroValue53 w) (by decide) fun w7 hc7 hb7 hs7 => ?_
      have hU7 := hU6.chg hc7 (fun _ _ _ h => h) (fun _ _ _ h => h)
      obtain ⟨oa', cap', he, _, hsrc⟩ := uki_src hU7
      rw [hal] at he
      obtain ⟨rfl, rfl⟩ : oa6 = oa' ∧ cap6 = cap' := by simpa using he
      (iterate 2 ((with_reducible refine zaj ?_ ?_ ?_); (· simp [evb, pvb, rnb, kb, hN, g3, g6, dyb, sdb] <;> omega); (· kernel_rfl); try simp only [evb, pvb, rnb, kb, hN, seval, g3, g6]))
      refine wl_sliceTo (e := 2) (oa := oa6) (len := j) (n := j) (k := .i64) (cap := cap6) (by kernel_rfl) (by simp [evb, kb, hN, g3, sdb]) (by simp [evb, kb, hN, g6, sdb]) (by omega) ?_
      refine wl_appTg (E := 53) (by kernel_rfl) (acc := []) (l := acc) (c := cap6) (oa := oa6) (v := .slice (some ⟨w6.heap.size, 0, none⟩) 0 0) (base := w6.heap.size) (G := fun g => G g ∧ g < w.heap.size) (by simp [evb, kb, hN, sdb]) (uki_blk0 hb7 (Nat.le_refl _)) (by simp [evb, kb, hN, hal, sdb]) hsrc (by simp only [List.length_nil]; omega) (fun k h => by have := h.2; omega) (by omega) fun v8 w8 hU8 hc8 => ?_
      (repeat ((with_reducible refine zaj ?_ ?_ ?_); (· simp [evb, pvb, rnb, kb, hN, dyb, sdb] <;> omega); (· kernel_rfl); try simp only [evb, pvb, rnb, kb, hN, seval]))
      refine zab ?_; refine hK5 _ _ ?_; try clear hK5 K5
      rw [List.nil_append] at hU8
      have hc68 : Chg (fun k => w6.heap.size ≤ k) w6 w8 := (hc7.mono fun _ _ h => h.elim).trans hc8 fun _ _ h => h.1
      have hb8 := (hb6.chg hc7 fun h => h).chg hc8 fun h => by have := hb6.lt; omega
      refine wp_seq_k fun K5 hK5 => ?_; refine zac ?_
      (iterate 1 ((with_reducible refine zaj ?_ ?_ ?_); (· simp [evb, pvb, rnb, kb, hN, dyb, sdb] <;> omega); (· kernel_rfl); try simp only [evb, pvb, rnb, kb, hN, seval]))
      refine wl_loadAgg (b := p8) (o := 0) (n := 2) (by kernel_rfl) (by kernel_rfl) (by simp [evb, kb, hN, g5, sdb]) hb8 (by simp) ?_
      rw [show (([.int .u32 x.1, .slice ob x.2.length cb] : List Value).drop 0).take 2 = [.int .u32 x.1, .slice ob x.2.length cb] from rfl]
      refine wl_lit1 (e := 53) (sz := 2) (z := aggOf [.int .u32 0, .slice none 0 0]) (l := [.int .u32 x.1, .slice ob x.2.length cb]) (by kernel_rfl) (by kernel_rfl) (fun w => Try.zeroValue53 w) (by simp [evb, kb, hN, sdb]; rfl) rfl (by decide) (by decide) fun w9 hc9 hb9 hs9 => ?_
      have hU9 := hU8.chg hc9 (fun _ _ _ h => h) (fun _ _ _ h => h)
      have hc69 : Chg (fun k => w6.heap.size ≤ k) w6 w9 := hc68.trans hc9 fun _ _ h => h.elim
      have hc09 : Chg (fun k => w.heap.size ≤ k) w w9 := hc06.trans hc69 fun _ _ h => by omega
      have hs69 := hc69.size
      have hx9 : zad w9 (fun g => G g ∧ g < w.heap.size) ob x.2 := hx4.stay ⟨fun k hk hg => ⟨hc09.block k hk (by omega), hg, hk⟩⟩
      refine wl_appTg (E := 53) (by kernel_rfl) (acc := acc) (l := [x]) (c := 1) (v := v8) (base := w6.heap.size) (by simp [evb, kb, hN, sdb]) hU9 (by simp [evb, kb, hN, sdb]) (.inr ⟨w8.heap.size, 0, _, _, rfl, hb9.r, ⟨ob, cb, rfl, hx2, hx3, hx9⟩, trivial⟩) (by simp only [List.length_singleton]; omega) (fun k h => by have := h.2; omega) (by omega) fun v10 w10 hU10 hc10 => ?_
      (repeat ((with_reducible refine zaj ?_ ?_ ?_); (· simp [evb, pvb, rnb, kb, hN, dyb, sdb] <;> omega); (· kernel_rfl); try simp only [evb, pvb, rnb, kb, hN, seval]))
      refine zab ?_; refine hK5 _ _ ?_; try clear hK5 K5
      have hc610 : Chg (fun k => w6.heap.size ≤ k) w6 w10 := hc69.trans hc10 fun _ _ h => h.1
      have hs610 := hc610.size
      refine zac ?_
      (iterate 3 ((with_reducible refine zaj ?_ ?_ ?_); (· simp [evb, pvb, rnb, kb, hN, g3, g6, dyb, sdb] <;> omega); (· kernel_rfl); try simp only [evb, pvb, rnb, kb, hN, seval, g3, g6]))
      refine wl_sliceFrom (s := 2) (n := j) (len := j) (cap := cap6) (k := .i64) (oa := oa6) (by kernel_rfl) (by simp [evb, kb, hN, g3, sdb]) (by simp [evb, kb, hN, g6, sdb]) (Nat.le_refl _) (by omega) fun oa7 => ?_
      refine wl_appTg (E := 53) (by kernel_rfl) (acc := acc ++ [x]) (l := []) (c := cap6 - j) (oa := oa7) (v := v10) (base := w6.heap.size) (by simp [evb, kb, hN, sdb]) hU10 (by simp [evb, kb, hN, sdb]) (.inl rfl) (by simp only [List.length_append, List.length_singleton, List.length_nil]; omega) (fun k h => by have := h.2; omega) (by omega) fun v11 w11 hU11 hc11 => ?_
      (repeat ((with_reducible refine zaj ?_ ?_ ?_); (· simp [evb, pvb, rnb, kb, hN, dyb, sdb] <;> omega); (· kernel_rfl); try simp only [evb, pvb, rnb, kb, hN, seval]))
      rw [List.append_nil] at hU11
      refine zab ⟨⟨v11, by simp only [zai, hN], by simp only [zaa, hD], by simp only [evb, kb, hN, seval, g8], by simp only [evb, kb, hN, seval], ?_, hc06.trans (hc610.trans hc11 fun _ _ h => h.1) fun _ _ h => by omega⟩, by simp only [evb, kb, hN, seval, g9], by simp only [evb, kb, hN, seval, g10]⟩
      rw [List.take_succ, hx, ← hacc]; exact uki_base hU11 hs06
    refine wp_seq_k fun K5 hK5 => ?_
    refine wp_ord (fun _ => False) follows_any (by kernel_rfl) ?_
    (repeat (first | (refine wf_p rfl rfl ?_ ?_ ?_ ?_; (· first | exact rdX_no | (refine ⟨?_⟩; simp [rxb]; done)); (· simp [evb, pvb, rnb, kb, hN, seval, g3, g6, g5, l8, e2, o0, o1, d1, Nat.add_zero, dyb, sdb] <;> omega); (· kernel_rfl); try simp only [evb, pvb, rnb, kb, hN, seval, g3, g6, g5, l8, e2, o0, o1, d1, Nat.add_zero]) | (refine wf_pg rfl rfl rfl ?_ rfl ?_ ?_ ?_ ?_; (· simp [evb, pvb, rnb, kb, hN, seval, g3, g6, g5, l8, e2, o0, o1, d1, Nat.add_zero]; done); (· first | exact rdX_no | (refine ⟨?_⟩; simp [rxb]; done)); (· simp [evb, pvb, rnb, kb, hN, seval, g3, g6, g5, l8, e2, o0, o1, d1, Nat.add_zero, dyb, sdb] <;> omega); (· kernel_rfl); try simp only [evb, pvb, rnb, kb, hN, seval, g3, g6, g5, l8, e2, o0, o1, d1, Nat.add_zero]) | (refine wf_gno rfl rfl rfl ?_ ?_; (· simp [evb, pvb, rnb, kb, hN, seval, g3, g6, g5, l8, e2, o0, o1, d1, Nat.add_zero]; done); try simp only [evb, pvb, rnb, kb, hN, seval, g3, g6, g5, l8, e2, o0, o1, d1, Nat.add_zero]) | (refine wf_gnoU rfl rfl rfl ?_ ?_; (· simp [evb, pvb, rnb, kb, hN, seval, g3, g6, g5, l8, e2, o0, o1, d1, Nat.add_zero]; done); try simp only [evb, pvb, rnb, kb, hN, seval, g3, g6, g5, l8, e2, o0, o1, d1, Nat.add_zero])))
    refine wf_nil (by decide) ?_
    refine hK5 _ _ ?_
    refine wp_cond_false (by simp only [evb, pvb, rnb, kb, hN, seval]) ?_
    exact wp_skip (ins _ _ (by simp only [evb, kb, hN, seval]) (by simp [zaa, hD]) (by simp only [evb, pvb, rnb, kb, hN, seval, g8]) (by simp only [evb, pvb, rnb, kb, hN, seval, g3]) (by simp only [evb, pvb, rnb, kb, hN, seval, g5]) (by simp only [evb, pvb, rnb, kb, hN, seval, g6]) (by simp only [evb, pvb, rnb, kb, hN, seval, g9]) (by simp only [evb, pvb, rnb, kb, hN, seval, g10]) ((hc5.trans (Chg.drew _ _) fun _ _ h => h).trans (Chg.drew _ _) fun _ _ h => h))
  · clear hN hD h0
    rintro a1 w1 ⟨v3, hN, hD, g8, g3, hU, hc1⟩
    refine hK _ _ ?_
    clear hK K
    refine wp_seq_k fun K hK => ?_; refine zac ?_; (repeat ((with_reducible refine zaj ?_ ?_ ?_); (· simp [evb, pvb, rnb, kb, hN, g3, dyb, sdb] <;> omega); (· kernel_rfl); try simp only [evb, pvb, rnb, kb, hN, seval, g3])); refine zab ?_; refine hK _ _ ?_; clear hK K; refine wp_ret ⟨by simp [zaa, hD], ?_⟩; simp only [evb, kb, hN, seval]
    rw [List.take_length] at hU
    exact ⟨hU.tgs, chg_own hc1⟩
end Go.Proofs.Ytbbocmkcciemdaa
namespace Go.Proofs.Ytbbocmkcciemdaa
set_option linter.all false
open Go.RowKit
set_option maxRecDepth 10000
set_option maxHeartbeats 4000000
theorem TgL.val {w : World} {G : Nat → Prop} {l : zat} {C : List Value} {i : Nat} {x : Nat × Bs} (h : TgL w G l C) (hx : l[i]? = some x) : ∃ ob cb, C[i * 2]? = some (.int .u32 x.1) ∧ C[i * 2 + 1]? = some (.slice ob x.2.length cb) ∧ zad w G ob x.2 := by
  obtain ⟨⟨ob, cb, h1, _, _, h4⟩, _⟩ := h.get hx
  refine ⟨ob, cb, h.key hx, ?_, h4⟩
  have := congrArg (·[1]?) h1
  simp only [List.getElem?_cons_succ, List.getElem?_cons_zero] at this
  rw [List.getElem?_take_of_lt (by omega), List.getElem?_drop] at this
  exact this
theorem sameTags_c {w : World} {G1 G2 : Nat → Prop} {l : zat} {v1 v2 : Value} (h1 : TgS w G1 l v1) (h2 : TgS w G2 l v2) (hn : l.length ≤ 1048576) (hv : ∀ x ∈ l, x.2.length ≤ LIM) : zao Try.prog 9 #[v1, v2] w fun r w' => r = .bool true ∧ Chg (fun _ => False) w w' := by
  obtain ⟨oa1, cap1, rfl, hcap1, hrow1⟩ := h1
  obtain ⟨oa2, cap2, rfl, hcap2, hrow2⟩ := h2
  refine zar Try.func9 rfl rfl Try.ntmps9 (by simp) ?_
  intro a hN hD hargs
  have h0 : get a 0 = .slice oa1 l.length cap1 := hargs 0 _ rfl
  have h1 : get a 1 = .slice oa2 l.length cap2 := hargs 1 _ rfl
  refine wp_seq_k fun K hK => ?_; refine zac ?_; (repeat ((with_reducible refine zaj ?_ ?_ ?_); (· simp [evb, pvb, rnb, kb, hN, dyb, sdb] <;> omega); (· kernel_rfl); try simp only [evb, pvb, rnb, kb, hN, seval])); refine zab ?_; refine hK _ _ ?_; clear hK K
  refine wp_seq_k fun K hK => ?_; refine wp_seq_k fun K1 hK1 => ?_; refine zac ?_; (repeat ((with_reducible refine zaj ?_ ?_ ?_); (· simp [evb, pvb, rnb, kb, hN, h0, h1, dyb, sdb] <;> omega); (· kernel_rfl); try simp only [evb, pvb, rnb, kb, hN, seval, h0, h1])); refine zab ?_; refine hK1 _ _ ?_; try clear hK1 K1
  refine wp_cond_false (by simp [evb, kb, hN, sdb]) ?_
  refine wp_skip (hK _ _ ?_)
  clear hK K
  refine wp_seq_k fun K hK => ?_; refine wp_seq_k fun K1 hK1 => ?_; refine zac ?_; (repeat ((with_reducible refine zaj ?_ ?_ ?_); (· simp [evb, pvb, rnb, kb, hN, h0, dyb, sdb] <;> omega); (· kernel_rfl); try simp only [evb, pvb, rnb, kb, hN, seval, h0])); refine zab ?_; refine hK1 _ _ ?_; try clear hK1 K1
  refine wp_range (n := l.length) (fun i a' w' => a'.tmps.size = 42 ∧ a'.defers = [] ∧ get a' 0 = .slice oa1 l.length cap1 ∧ get a' 1 = .slice oa2 l.length cap2 ∧ Chg (fun _ => False) w w') 42 (by omega)
    (by simp only [evb, kb, hN, seval]; try rfl) (by simp only [evb, kb, hN, seval]) ⟨by simp only [evb, kb, hN, seval], by simp [zaa, hD], by simp only [evb, kb, hN, seval, h0], by simp only [evb, kb, hN, seval, h1], Chg.refl _ _⟩ ?_ ?_ (by decide) ?_ ?_
  · rintro i a w ⟨h, _⟩; exact h
  · rintro i a w t v ht ⟨k1, k2, k3, k4, k5⟩
    rcases ht with rfl | rfl | rfl <;> exact ⟨by rw [zai]; exact k1, by rw [zaa]; exact k2, by rw [zal (by decide)]; exact k3, by rw [zal (by decide)]; exact k4, k5⟩
  · clear hN hD h0 h1
    rintro i a1 w1 hi ⟨hN, hD, h0, h1, hc1⟩ g12 g13
    have hx : l[i]? = some l[i] := by simp [hi]
    have hlx : l[i].2.length ≤ LIM := hv _ (List.getElem_mem hi)
    generalize l[i] = x at hx hlx
    rcases hrow1 with rfl | ⟨b1, o1, cs1, T1, rfl, _, hb1, ht1⟩
    · simp at hi
    rcases hrow2 with rfl | ⟨b2, o2, cs2, T2, rfl, _, hb2, ht2⟩
    · simp at hi
    obtain ⟨ob1, cb1, k1, k2, k3⟩ := ht1.val hx
    obtain ⟨ob2, cb2, q1, q2, q3⟩ := ht2.val hx
    rw [List.getElem?_drop] at k1 k2 q1 q2
    rw [← Nat.add_assoc] at k2 q2
    replace hb1 := hb1.chg hc1 fun h => h
    replace hb2 := hb2.chg hc1 fun h => h
    have a1 := hb1.ld k1
    have a2 := hb1.ld k2
    have e1 := hb2.ld q1
    have e2 := hb2.ld q2
    replace k3 := k3.chg hc1 fun _ _ _ h => h
    replace q3 := q3.chg hc1 fun _ _ _ h => h
    refine wp_seq_k fun K3 hK3 => ?_; refine zac ?_; (repeat ((with_reducible refine zaj ?_ ?_ ?_); (· simp [evb, pvb, rnb, kb, hN, g13, dyb, sdb] <;> omega); (· kernel_rfl); try simp only [evb, pvb, rnb, kb, hN, seval, g13])); refine zab ?_; refine hK3 _ _ ?_; try clear hK3 K3
    obtain ⟨z2, z0, z1⟩ := tgFacts
    refine wp_seq_k fun K3 hK3 => ?_
    refine wp_ord (fun _ => False) follows_any (by kernel_rfl) ?_
    (repeat (first | (refine wf_p rfl rfl ?_ ?_ ?_ ?_; (· first | exact rdX_no | (refine ⟨?_⟩; simp [rxb]; done)); (· simp [evb, pvb, rnb, kb, hN, seval, h0, h1, g13, a1, a2, e1, e2, z2, z0, z1, Nat.add_zero, Int.toNat_natCast, dyb, sdb] <;> omega); (· kernel_rfl); try simp only [evb, pvb, rnb, kb, hN, seval, h0, h1, g13, a1, a2, e1, e2, z2, z0, z1, Nat.add_zero, Int.toNat_natCast]) | (refine wf_pg rfl rfl rfl ?_ rfl ?_ ?_ ?_ ?_; (· simp [evb, pvb, rnb, kb, hN, seval, h0, h1, g13, a1, a2, e1, e2, z2, z0, z1, Nat.add_zero, Int.toNat_natCast]; done); (· first | exact rdX_no | (refine ⟨?_⟩; simp [rxb]; done)); (· simp [evb, pvb, rnb, kb, hN, seval, h0, h1, g13, a1, a2, e1, e2, z2, z0, z1, Nat.add_zero, Int.toNat_natCast, dyb, sdb] <;> omega); (· kernel_rfl); try simp only [evb, pvb, rnb, kb, hN, seval, h0, h1, g13, a1, a2, e1, e2, z2, z0, z1, Nat.add_zero, Int.toNat_natCast]) | (refine wf_gno rfl rfl rfl ?_ ?_; (· simp [evb, pvb, rnb, kb, hN, seval, h0, h1, g13, a1, a2, e1, e2, z2, z0, z1, Nat.add_zero, Int.toNat_natCast]; done); try simp only [evb, pvb, rnb, kb, hN, seval, h0, h1, g13, a1, a2, e1, e2, z2, z0, z1, Nat.add_zero, Int.toNat_natCast]) | (refine wf_gnoU rfl rfl rfl ?_ ?_; (· simp [evb, pvb, rnb, kb, hN, seval, h0, h1, g13, a1, a2, e1, e2, z2, z0, z1, Nat.add_zero, Int.toNat_natCast]; done); try simp only [evb, pvb, rnb, kb, hN, seval, h0, h1, g13, a1, a2, e1, e2, z2, z0, z1, Nat.add_zero, Int.toNat_natCast])))
    refine wf_callG (fun args w => Try.call19 args w) rfl rfl rfl ?_ (by simp only [List.map_toArray, List.map_cons, List.map_nil]; simp only [evb, pvb, rnb, kb, hN, seval]; exact Same_c x.2 x.2 (k3.chg (Chg.drew (fun _ => False) _) fun _ _ _ h => h) (q3.chg (Chg.drew (fun _ => False) _) fun _ _ _ h => h) hlx) ?_
    · simp only [evb, pvb, rnb, kb, hN, seval]; simp [cmp2]
    rintro _ w2 ⟨rfl, hc2⟩
    have hcd : Chg (fun _ => False) w1 w2 := (Chg.drew (fun _ => False) w1).trans hc2 fun _ _ h => h
    refine ⟨hcd, ?_⟩
    (repeat (first | (refine wf_p rfl rfl ?_ ?_ ?_ ?_; (· first | exact rdX_no | (refine ⟨?_⟩; simp [rxb]; done)); (· simp [evb, pvb, rnb, kb, hN, seval, cmp2, dyb, sdb] <;> omega); (· kernel_rfl); try simp only [evb, pvb, rnb, kb, hN, seval, cmp2]) | (refine wf_pg rfl rfl rfl ?_ rfl ?_ ?_ ?_ ?_; (· simp [evb, pvb, rnb, kb, hN, seval, cmp2]; done); (· first | exact rdX_no | (refine ⟨?_⟩; simp [rxb]; done)); (· simp [evb, pvb, rnb, kb, hN, seval, cmp2, dyb, sdb] <;> omega); (· kernel_rfl); try simp only [evb, pvb, rnb, kb, hN, seval, cmp2]) | (refine wf_gno rfl rfl rfl ?_ ?_; (· simp [evb, pvb, rnb, kb, hN, seval, cmp2]; done); try simp only [evb, pvb, rnb, kb, hN, seval, cmp2]) | (refine wf_gnoU rfl rfl rfl ?_ ?_; (· simp [evb, pvb, rnb, kb, hN, seval, cmp2]; done); try simp only [evb, pvb, rnb, kb, hN, seval, cmp2])))
    refine wf_nil (by decide) ?_
    refine hK3 _ _ ?_; try clear hK3 K3
    refine wp_cond_false (by simp only [evb, pvb, rnb, kb, hN, seval]; simp [cmp2, zas]) ?_
    refine wp_skip ⟨⟨by simp only [zai, hN], by simp only [zaa, hD], by simp only [evb, pvb, rnb, kb, hN, seval, h0], by simp only [evb, pvb, rnb, kb, hN, seval, h1], hc1.trans hcd fun _ _ h => h⟩, by simp only [evb, pvb, rnb, kb, hN, seval, g12], by simp only [evb, pvb, rnb, kb, hN, seval, g13]⟩
  · clear hN hD h0 h1
    rintro a1 w1 ⟨hN, hD, h0, h1, hc1⟩
    refine hK _ _ ?_
    clear hK K
    refine wp_seq_k fun K hK => ?_; refine zac ?_; (repeat ((with_reducible refine zaj ?_ ?_ ?_); (· simp [evb, pvb, rnb, kb, hN, dyb, sdb] <;> omega); (· kernel_rfl); try simp only [evb, pvb, rnb, kb, hN, seval])); refine zab ?_; refine hK _ _ ?_; clear hK K; refine wp_ret ⟨by simp [zaa, hD], ?_⟩; simp only [evb, kb, hN, seval]
    exact ⟨by first | rfl | trivial, hc1⟩
end Go.Proofs.Ytbbocmkcciemdaa
