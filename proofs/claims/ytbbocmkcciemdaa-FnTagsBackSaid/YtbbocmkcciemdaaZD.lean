import Derived.Test.YtbbocmkcciemdaaZB
import Derived.MapKept
import Derived.Laws.Cover3
/-
What the proofs of the laws rest on, part ZD.
-/
namespace Go.Proofs.Ytbbocmkcciemdaa
set_option linter.all false
open Go.RowKit
set_option maxRecDepth 10000
set_option maxHeartbeats 1000000
theorem All2.snoc {α β : Type} {R : α → β → Prop} : ∀ {l : List α} {m : List β} {a : α} {b : β}, All2 R l m → R a b → All2 R (l ++ [a]) (m ++ [b])
  | _, _, _, _, .nil, h => .cons h .nil
  | _, _, _, _, .cons x y, h => .cons x (y.snoc h)
theorem All2.set {α β : Type} {R : α → β → Prop} : ∀ {l : List α} {m : List β} {a : α} {b : β} (j : Nat), All2 R l m → R a b → All2 R (l.set j a) (m.set j b)
  | _, _, _, _, _, .nil, _ => .nil
  | _, _, _, _, 0, .cons _ y, h => .cons h y
  | _, _, _, _, j + 1, .cons x y, h => .cons x (y.set j h)
theorem All2.at_ {α β : Type} {R : α → β → Prop} : ∀ {l : List α} {m : List β} {j : Nat} {a : α}, All2 R l m → l[j]? = some a → ∃ b, m[j]? = some b ∧ R a b
  | _, _, _, _, .nil, h => by simp at h
  | _, _, 0, _, .cons x _, h => by simp at h; subst h; exact ⟨_, rfl, x⟩
  | _, _, j + 1, _, .cons _ y, h => by simpa using y.at_ (by simpa using h)
theorem All2.mem {α β : Type} {R : α → β → Prop} {l : List α} {m : List β} {b : β} (h : All2 R l m) (hb : b ∈ m) : ∃ a, a ∈ l ∧ R a b := by
  induction h with
  | nil => cases hb
  | cons x _ ih =>
    rcases List.mem_cons.1 hb with rfl | hb
    · exact ⟨_, by simp, x⟩
    · obtain ⟨a, h1, h2⟩ := ih hb; exact ⟨a, by simp [h1], h2⟩
theorem tagSet_no : ∀ (t : zat) (k : Nat) (v : Bs), (∀ y ∈ t, y.1 ≠ k) → tagSet t k v = t ++ [(k, v)]
  | [], _, _, _ => rfl
  | (j, u) :: r, k, v, h => by
    unfold tagSet
    rw [if_neg (h (j, u) (by simp)), tagSet_no r k v fun y hy => h y (by simp [hy])]; rfl
theorem tagSet_at : ∀ (t : zat) (j k : Nat) (u v : Bs), t[j]? = some (k, u) → (t.map (·.1)).Nodup → tagSet t k v = t.set j (k, v)
  | [], _, _, _, _, h, _ => by simp at h
  | (i, w) :: r, 0, k, u, v, h, _ => by
    simp at h
    obtain ⟨rfl, _⟩ := h
    unfold tagSet; rw [if_pos rfl]; rfl
  | (i, w) :: r, j + 1, k, u, v, h, hn => by
    simp only [List.map_cons, List.nodup_cons] at hn
    simp only [List.getElem?_cons_succ] at h
    have : i ≠ k := fun e => hn.1 (by rw [e]; exact List.mem_map.2 ⟨(k, u), List.mem_of_getElem? h, rfl⟩)
    unfold tagSet; rw [if_neg this, tagSet_at r j k u v h hn.2]; rfl
def mapTB (P : Program) (t : Nat) : Bool := match P.underlying t with | some (.map k _) => (match P.underlying k with | some (.int .u32) => true | _ => false) | _ => false
theorem mapTB_eq {P : Program} {t : Nat} (h : mapTB P t = true) : ∃ k e, P.underlying t = some (.map k e) ∧ P.underlying k = some (.int .u32) := by
  unfold mapTB at h
  split at h
  · rename_i k e hu
    split at h
    · exact ⟨k, e, hu, ‹_›⟩
    · cases h
  · cases h
theorem zad.setMap {w w' : World} {G : Nat → Prop} {oa : Option Addr} {bs : Bs} {r c : Nat} {es : Array MapEntry} (h : zad w G oa bs) (hr : w.heap[r]? = some (.map es c)) (hc : Chg (fun n => n = r) w w') : zad w' G oa bs := by
  rcases h with h | ⟨b, o, l, T, h1, h2, h3, h4⟩
  · exact .inl h
  · refine .inr ⟨b, o, l, T, h1, h2, h3.chg hc fun e => ?_, h4⟩
    subst e
    obtain ⟨fz, h3⟩ := h3
    rw [hr] at h3; cases h3
theorem modify_set {α : Type} {es : Array α} {j : Nat} {e : α} (f : α → α) (h : es[j]? = some e) : (es.modify j f).toList = es.toList.set j (f e) := by
  apply List.ext_getElem?
  intro i
  rw [Array.getElem?_toList, Array.getElem?_modify, List.getElem?_set]
  by_cases hi : j = i
  · subst hi
    have hlt := (Array.getElem?_eq_some_iff.1 h).1
    rw [if_pos rfl, if_pos rfl, if_pos (by simpa using hlt), h]; rfl
  · rw [if_neg hi, if_neg hi, Array.getElem?_toList]
theorem set_map_same {α β : Type} (f : α → β) : ∀ (l : List α) (j : Nat) (x y : α), l[j]? = some x → f y = f x → (l.set j y).map f = l.map f
  | [], _, _, _, h, _ => by simp at h
  | a :: l, 0, x, y, h, e => by simp at h; subst h; simp [e]
  | a :: l, j + 1, x, y, h, e => by simp only [List.set_cons_succ, List.map_cons]; rw [set_map_same f l j x y (by simpa using h) e]
theorem run_tagSet {P : Program} {w : World} {G : Nat → Prop} {r : Nat} {t : zat} {ty k : Nat} {oa : Option Addr} {l : Bs} {cap : Nat} (ht : mapTB P ty = true) (h : TagsAt w G (some r) t) (hk : k < 4294967296) (hb : zad w G oa l) :
    ∃ w', (Instr.mapUpdate ty (.map (some r)) (.int .u32 (k : Nat)) (.slice oa l.length cap)).run P w = .ok () w' ∧ Chg (fun n => n = r) w w' ∧ TagsAt w' G (some r) (tagSet t k l) := by
  obtain ⟨kt, et, hm, hd⟩ := mapTB_eq ht
  rcases h with h | ⟨r', es, clock, h1, h2, h3, h4, h5, h6, h7⟩
  · cases h.1
  simp only [Option.some.injEq] at h1
  subst h1
  have hkey : MapKept.IsKey (.int .u32) (.int .u32 (k : Nat)) := rfl
  have hchg : ∀ o : Obj, Chg (fun n => n = r) w { w with heap := w.heap.setIfInBounds r o } := fun o => ⟨rfl, rfl, rfl, by simp, fun j hj hx => by simp [Ne.symm hx]⟩
  have hnew : ∀ o : Obj, ({ w with heap := w.heap.setIfInBounds r o } : World).heap[r]? = some o := fun o => (MapKept.heap_set h3).1
  have hE : ∀ (o : Obj) (e : MapEntry) (x : Nat × Bs), RepE w G e x → RepE { w with heap := w.heap.setIfInBounds r o } G e x := by
    rintro o e x ⟨e1, e2, oa', cap', e3, e4⟩
    exact ⟨e1, e2, oa', cap', e3, e4.setMap h3 (hchg o)⟩
  have hks : ∀ x ∈ es.toList, MapKept.IsKey (.int .u32) x.key := by
    intro x hx
    obtain ⟨j, hj⟩ := List.mem_iff_getElem?.1 hx
    obtain ⟨b, _, hb'⟩ := h4.at_ hj
    rw [hb'.1]; rfl
  rcases MapKept.findNow_spec hkey es.toList 0 hks with ⟨f1, f2⟩ | ⟨j, e, f1, f2, f3⟩
  · refine ⟨_, by simp [Instr.mapUpdate, run_underlying hm, MapKept.run_getObj_map h3, MapKept.run_checkKey hd hkey, MapKept.run_findKey hd f1, MapKept.run_setObj_map _ h3, Result.andThen]; rfl, hchg _, .inr ⟨r, _, _, rfl, h2, hnew _, ?_, ?_, ?_, ?_⟩⟩
    · have hno : ∀ y ∈ t, y.1 ≠ k := by
        intro y hy e
        obtain ⟨a, ha, hr⟩ := h4.mem hy
        exact f2 a ha (by rw [hr.1, e])
      rw [tagSet_no t k l hno, Array.toList_push]
      exact (h4.imp fun a b => hE _ a b).snoc ⟨rfl, hk, oa, cap, rfl, hb.setMap h3 (hchg _)⟩
    · have hno : ∀ y ∈ t, y.1 ≠ k := by
        intro y hy e
        obtain ⟨a, ha, hr⟩ := h4.mem hy
        exact f2 a ha (by rw [hr.1, e])
      rw [tagSet_no t k l hno, List.map_append, List.nodup_append]
      refine ⟨h5, by simp, fun a ha b hb' e => ?_⟩
      simp at hb'
      obtain ⟨y, hy, hye⟩ := List.mem_map.1 ha
      exact hno y hy (by rw [hye, e, hb'])
    · rw [Array.toList_push, List.map_append, List.nodup_append]
      refine ⟨h6, by simp, fun a ha b hb' e => ?_⟩
      simp at hb'
      obtain ⟨y, hy, hye⟩ := List.mem_map.1 ha
      have := h7 y hy
      omega
    · intro e he
      rw [Array.toList_push] at he
      rcases List.mem_append.1 he with he | he
      · have := h7 e he; omega
      · simp at he; rw [he]; show clock < clock + 1; omega
  · obtain ⟨b, hb1, hb2⟩ := h4.at_ (j := j) (a := e) (by simpa using f2)
    have hke : b.1 = k := by
      have := hb2.1
      rw [f3] at this
      simp at this
      omega
    obtain ⟨b1, b2⟩ := b
    simp only at hke
    subst hke
    have hj : es[j]? = some e := by simpa using f2
    refine ⟨_, by simp [Instr.mapUpdate, run_underlying hm, MapKept.run_getObj_map h3, MapKept.run_checkKey hd hkey, MapKept.run_findKey hd f1, hj, f3, MapKept.run_keyThatStays hkey, MapKept.run_setObj_map _ h3, Result.andThen]; rfl, hchg _, .inr ⟨r, _, _, rfl, h2, hnew _, ?_, ?_, ?_, ?_⟩⟩
    · rw [modify_set _ hj, tagSet_at t j b1 b2 l hb1 h5]
      exact (h4.imp fun a b => hE _ a b).set j ⟨rfl, hk, oa, cap, rfl, hb.setMap h3 (hchg _)⟩
    · rw [tagSet_at t j b1 b2 l hb1 h5, set_map_same _ t j (b1, b2) (b1, l) hb1 rfl]; exact h5
    · rw [modify_set _ hj, set_map_same _ es.toList j e ⟨.int .u32 (b1 : Nat), .slice oa l.length cap, e.born⟩ f2 rfl]; exact h6
    · intro x hx
      rw [modify_set _ hj] at hx
      rcases List.mem_or_eq_of_mem_set hx with hx | hx
      · exact h7 x hx
      · rw [hx]; exact h7 e (List.mem_of_getElem? f2)
end Go.Proofs.Ytbbocmkcciemdaa
namespace Go.Proofs.Ytbbocmkcciemdaa
set_option linter.all false
open Go.RowKit
set_option maxRecDepth 10000
set_option maxHeartbeats 2000000
section
variable {P : Program} {ops : Array Oper} {Q : Exit → Act → World → Prop} {a : Act} {w : World} {rest : List Oper} {d : Option Nat} {ty : TypeId} {pos : String} {af : Array Edge}
theorem wl_eqlNilM {t u : TypeId} {x : Operand} {m : Option Nat} (ht : mapTB P t = true) (hx : a.eval x = .map m) (h : WL P ops Q rest (a.put d (.bool m.isNone)) w) :
    WL P ops Q (⟨d, .binOp .eql t x (.const (.map none)) u, ty, pos, af, none⟩ :: rest) a w := by
  obtain ⟨k, e, hu, _⟩ := mapTB_eq ht
  refine zak rfl ?_ h
  simp [execOp, eqGuard, binOp, hx, eval_const, run_equal_map_nil w t k e m hu]
theorem wl_makeMap {t : TypeId} (h : ∀ w', Chg (fun _ => False) w w' → w'.heap[w.heap.size]? = some (.map #[] 0) → w'.heap.size = w.heap.size + 1 → WL P ops Q rest (a.put d (.map (some w.heap.size))) w') :
    WL P ops Q (⟨d, .makeMap t none, ty, pos, af, none⟩ :: rest) a w :=
  zak rfl (v := .map (some w.heap.size)) (w' := w.alloc (.map #[] 0)) rfl (h _ (Chg.alloc _ _ _) (heap_alloc_new w _) (by simp))
theorem wl_mapUpdate {t : TypeId} {x y z : Operand} {G : Nat → Prop} {r k : Nat} {tg : zat} {oa : Option Addr} {l : Bs} {cap : Nat} (ht : mapTB P t = true) (hx : a.eval x = .map (some r)) (hy : a.eval y = .int .u32 (k : Nat)) (hz : a.eval z = .slice oa l.length cap)
    (h1 : TagsAt w G (some r) tg) (hk : k < 4294967296) (hb : zad w G oa l) (h : ∀ w', Chg (fun n => n = r) w w' → TagsAt w' G (some r) (tagSet tg k l) → WL P ops Q rest (a.put d undef) w') :
    WL P ops Q (⟨d, .mapUpdate t x y z, ty, pos, af, none⟩ :: rest) a w := by
  obtain ⟨w', hr, hc, ht'⟩ := run_tagSet (cap := cap) ht h1 hk hb
  exact wl_skip rfl (by simp only [execOp, Sem.run_bind, hx, hy, hz, hr]; rfl) (h w' hc ht')
end
abbrev tT : TypeId := 41
theorem foT : fOff Try.prog tT 0 = 0 := by kernel_rfl
theorem splice_mid {l vs : List Value} {i k : Nat} (h : i + vs.length ≤ l.length) (hk : k < vs.length) : (zan l i vs)[i + k]? = vs[k]? := by
  unfold zan
  have e : (l.take i).length = i := by rw [List.length_take]; omega
  rw [List.append_assoc, List.getElem?_append_right (by omega), e, Nat.add_sub_cancel_left, List.getElem?_append_left hk]
theorem Set_c {w : World} {G : Nat → Prop} {B o k : Nat} {cs : List Value} {T : TypeId} {m : Option Nat} {tg : zat} {oa : Option Addr} {l : Bs} {cap : Nat} (hb : Blk w B cs T) (hm : cs[o]? = some (.map m)) (ht : TagsAt w G m tg) (hk : k < 4294967296) (hl : zad w G oa l) (hB : ¬ G B) (hf : ∀ j, w.heap.size ≤ j → G j) :
    zao Try.prog 13 #[.pointer (some ⟨B, o, none⟩), .int .u32 (k : Nat), .slice oa l.length cap] w fun _ w' => ∃ m', Blk w' B (zan cs o [.map m']) T ∧ TagsAt w' G m' (tagSet tg k l) ∧ Chg (fun j => j = B ∨ some j = m) w w' ∧ (m' = m ∨ ∃ r, m' = some r ∧ w.heap.size ≤ r) := by
  refine callsR_of0 Try.func13 rfl rfl Try.ntmps13 (by simp) ?_
  intro a hN hD ha
  have h0 : get a 0 = .pointer (some ⟨B, o, none⟩) := ha 0 _ rfl
  have h1 : get a 1 = .int .u32 (k : Nat) := ha 1 _ rfl
  have h2 : get a 2 = .slice oa l.length cap := ha 2 _ rfl
  have hlo : o < cs.length := (List.getElem?_eq_some_iff.1 hm).1
  have l0 := hb.ld hm
  refine wp_seq_k fun K hK => ?_; refine wp_seq_k fun K0 hK0 => ?_; refine zac ?_; (repeat ((with_reducible refine zaj ?_ ?_ ?_); (· simp [evb, pvb, rnb, kb, hN, h0, l0, foT, dyb, sdb] <;> omega); (· kernel_rfl); try simp only [evb, pvb, rnb, kb, hN, seval, h0, l0, foT]))
  refine wl_eqlNilM (m := m) (by kernel_rfl) (by simp only [evb, pvb, rnb, kb, hN, seval]) ?_
  refine zab ?_
  refine hK0 _ _ ?_; try clear hK0 K0
  cases m with
  | some r =>
    have hr : r ≠ B := by
      rcases ht with h | ⟨r', es, c, e1, e2, _⟩
      · cases h.1
      · cases e1; exact fun e => hB (e ▸ e2)
    refine wp_cond_false (by simp only [evb, pvb, rnb, kb, hN, seval] <;> rfl) ?_
    refine wp_skip ?_
    refine hK _ _ ?_
    clear hK K
    refine zac ?_; (repeat ((with_reducible refine zaj ?_ ?_ ?_); (· simp [evb, pvb, rnb, kb, hN, h0, h1, h2, l0, foT, dyb, sdb] <;> omega); (· kernel_rfl); try simp only [evb, pvb, rnb, kb, hN, seval, h0, h1, h2, l0, foT]))
    refine wl_mapUpdate (r := r) (k := k) (oa := oa) (l := l) (cap := cap) (by kernel_rfl) (by simp only [evb, pvb, rnb, kb, hN, seval]) (by simp only [evb, pvb, rnb, kb, hN, seval]) (by simp only [evb, pvb, rnb, kb, hN, seval]) ht hk hl fun w1 hc1 ht1 => ?_
    refine zab ⟨by simp only [zaa, hD], some r, ?_, ht1, hc1.mono fun j _ h => by rw [h]; exact .inr rfl, .inl rfl⟩
    have hsp : zan cs o [.map (some r)] = cs := by
      apply List.ext_getElem?
      intro j
      by_cases c1 : j < o
      · rw [splice_below (by simp; omega) c1]
      · by_cases c2 : j = o
        · subst c2
          have := splice_mid (l := cs) (vs := [Value.map (some r)]) (i := j) (k := 0) (by simp; omega) (by simp)
          rw [Nat.add_zero] at this
          rw [this, hm]; rfl
        · rw [splice_above (by simp; omega) (by simp; omega)]
    rw [hsp]
    exact hb.chg hc1 fun e => hr e.symm
  | none =>
    have htg : tg = [] := by
      rcases ht with h | ⟨r', es, c, e1, e2, _⟩
      · exact h.2
      · cases e1
    subst htg
    refine wp_cond_true (by simp only [evb, pvb, rnb, kb, hN, seval] <;> rfl) ?_
    refine zac ?_; (repeat ((with_reducible refine zaj ?_ ?_ ?_); (· simp [evb, pvb, rnb, kb, hN, h0, dyb, sdb] <;> omega); (· kernel_rfl); try simp only [evb, pvb, rnb, kb, hN, seval, h0]))
    refine wl_makeMap fun w1 hc1 hm1 hs1 => ?_
    (repeat ((with_reducible refine zaj ?_ ?_ ?_); (· simp [evb, pvb, rnb, kb, hN, h0, foT, dyb, sdb] <;> omega); (· kernel_rfl); try simp only [evb, pvb, rnb, kb, hN, seval, h0, foT]))
    refine wl_store (b := B) (o := o) (n := 1) (v := .map (some w.heap.size)) (by kernel_rfl) (by simp only [evb, pvb, rnb, kb, hN, seval]) (by simp only [evb, pvb, rnb, kb, hN, seval]) (hb.chg hc1 fun h => h) rfl (by intro y hy; simp only [Value.cells, List.mem_singleton] at hy; subst hy; rfl) (by omega) fun w2 hb2 hc2 => ?_
    refine zab (hK _ _ ?_)
    clear hK K
    have hlt := hb.lt
    have l2 := hb2.ld (i := o) (v := .map (some w.heap.size)) (by
      have := splice_mid (l := cs) (vs := [Value.map (some w.heap.size)]) (i := o) (k := 0) (by simp; omega) (by simp)
      rw [Nat.add_zero] at this
      exact this)
    have ht2 : TagsAt w2 G (some w.heap.size) [] := .inr ⟨w.heap.size, #[], 0, rfl, hf _ (Nat.le_refl _), by rw [hc2.block _ (by omega) (by omega)]; exact hm1, .nil, List.nodup_nil, List.nodup_nil, fun e h => by simp at h⟩
    have hl2 : zad w2 G oa l := (hl.chg hc1 fun _ _ _ h => h).chg hc2 fun g hg _ e => hB (e ▸ hg)
    refine zac ?_; (repeat ((with_reducible refine zaj ?_ ?_ ?_); (· simp [evb, pvb, rnb, kb, hN, h0, h1, h2, l2, foT, dyb, sdb] <;> omega); (· kernel_rfl); try simp only [evb, pvb, rnb, kb, hN, seval, h0, h1, h2, l2, foT]))
    refine wl_mapUpdate (r := w.heap.size) (k := k) (oa := oa) (l := l) (cap := cap) (by kernel_rfl) (by simp only [evb, pvb, rnb, kb, hN, seval]) (by simp only [evb, pvb, rnb, kb, hN, seval]) (by simp only [evb, pvb, rnb, kb, hN, seval]) ht2 hk hl2 fun w3 hc3 ht3 => ?_
    refine zab ⟨by simp only [zaa, hD], some w.heap.size, hb2.chg hc3 (by omega), ht3, ?_, .inr ⟨_, rfl, Nat.le_refl _⟩⟩
    exact (((hc1.mono (Y := fun j => j = B ∨ some j = none) fun _ _ h => h.elim).trans hc2 fun n _ h => .inl h).trans hc3 fun n hn h => by omega).mono fun n _ h => by
      rcases h with h | h
      · exact .inl h
      · cases h
def outTg (_ w' : World) (G : Nat → Prop) (x : zat) (v : Value) : Prop := ∃ m, v = .agg #[.map m] ∧ TagsAt w' G m x
end Go.Proofs.Ytbbocmkcciemdaa
