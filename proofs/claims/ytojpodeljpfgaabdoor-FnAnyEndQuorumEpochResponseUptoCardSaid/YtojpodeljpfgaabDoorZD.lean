import Derived.Test.YtojpodeljpfgaabDoorZC
import Derived.Test.YtojpodeljpfgaabDoorZB
import Derived.MapKept
import Derived.Laws.Cover3
/-
What the proofs of the laws rest on, part ZD.
-/
namespace Go.Proofs.YtojpodeljpfgaabDoor
set_option linter.all false
open Go.RowKit
set_option maxRecDepth 10000
set_option maxHeartbeats 1000000
theorem All2.snoc {α β : Type} {R : α → β → Prop} : ∀ {l : List α} {m : List β} {a : α} {b : β}, All2 R l m → R a b → All2 R (l ++ [a]) (m ++ [b])
  | _, _, _, _, .nil, h => .cons h .nil
  | _, _, _, _, .cons x y, h => .cons x (y.snoc h)
theorem All2.set {α β : Type} {R : α → β → Prop} : ∀ {l : List α} {m : List β} {a : α} {b : β} (j : Nat), All2 R l m → R a b → All2 R (l.set j a) (m.set j b)
  | _, _, _, _, _, .nil, _ => .nil
  | _, _, _, _, 0, .cons _ y, h => .cons h y
  | _, _, _, _, j + 1, .cons x y, h => .cons x (y.set j h)
theorem All2.at_ {α β : Type} {R : α → β → Prop} : ∀ {l : List α} {m : List β} {j : Nat} {a : α}, All2 R l m → l[j]? = some a → ∃ b, m[j]? = some b ∧ R a b
  | _, _, _, _, .nil, h => by simp at h
  | _, _, 0, _, .cons x _, h => by simp at h; subst h; exact ⟨_, rfl, x⟩
  | _, _, j + 1, _, .cons _ y, h => by simpa using y.at_ (by simpa using h)
theorem All2.mem {α β : Type} {R : α → β → Prop} {l : List α} {m : List β} {b : β} (h : All2 R l m) (hb : b ∈ m) : ∃ a, a ∈ l ∧ R a b := by
  induction h with
  | nil => cases hb
  | cons x _ ih =>
    rcases List.mem_cons.1 hb with rfl | hb
    · exact ⟨_, by simp, x⟩
    · obtain ⟨a, h1, h2⟩ := ih hb; exact ⟨a, by simp [h1], h2⟩
theorem tagSet_no : ∀ (t : za0) (k : Nat) (v : Bs), (∀ y ∈ t, y.1 ≠ k) → tagSet t k v = t ++ [(k, v)]
  | [], _, _, _ => rfl
  | (j, u) :: r, k, v, h => by
    unfold tagSet
    rw [if_neg (h (j, u) (by simp)), tagSet_no r k v fun y hy => h y (by simp [hy])]; rfl
theorem tagSet_at : ∀ (t : za0) (j k : Nat) (u v : Bs), t[j]? = some (k, u) → (t.map (·.1)).Nodup → tagSet t k v = t.set j (k, v)
  | [], _, _, _, _, h, _ => by simp at h
  | (i, w) :: r, 0, k, u, v, h, _ => by
    simp at h
    obtain ⟨rfl, _⟩ := h
    unfold tagSet; rw [if_pos rfl]; rfl
  | (i, w) :: r, j + 1, k, u, v, h, hn => by
    simp only [List.map_cons, List.nodup_cons] at hn
    simp only [List.getElem?_cons_succ] at h
    have : i ≠ k := fun e => hn.1 (by rw [e]; exact List.mem_map.2 ⟨(k, u), List.mem_of_getElem? h, rfl⟩)
    unfold tagSet; rw [if_neg this, tagSet_at r j k u v h hn.2]; rfl
def mapTB (P : Program) (t : Nat) : Bool := match P.underlying t with | some (.map k _) => (match P.underlying k with | some (.int .u32) => true | _ => false) | _ => false
theorem mapTB_eq {P : Program} {t : Nat} (h : mapTB P t = true) : ∃ k e, P.underlying t = some (.map k e) ∧ P.underlying k = some (.int .u32) := by
  unfold mapTB at h
  split at h
  · rename_i k e hu
    split at h
    · exact ⟨k, e, hu, ‹_›⟩
    · cases h
  · cases h
theorem zaq.setMap {w w' : World} {G : Nat → Prop} {oa : Option Addr} {bs : Bs} {r c : Nat} {es : Array MapEntry} (h : zaq w G oa bs) (hr : w.heap[r]? = some (.map es c)) (hc : Chg (fun n => n = r) w w') : zaq w' G oa bs := by
  rcases h with h | ⟨b, o, l, T, h1, h2, h3, h4⟩
  · exact .inl h
  · refine .inr ⟨b, o, l, T, h1, h2, h3.chg hc fun e => ?_, h4⟩
    subst e
    obtain ⟨fz, h3⟩ := h3
    rw [hr] at h3; cases h3
theorem modify_set {α : Type} {es : Array α} {j : Nat} {e : α} (f : α → α) (h : es[j]? = some e) : (es.modify j f).toList = es.toList.set j (f e) := by
  apply List.ext_getElem?
  intro i
  rw [Array.getElem?_toList, Array.getElem?_modify, List.getElem?_set]
  by_cases hi : j = i
  · subst hi
    have hlt := (Array.getElem?_eq_some_iff.1 h).1
    rw [if_pos rfl, if_pos rfl, if_pos (by simpa using hlt), h]; rfl
  · rw [if_neg hi, if_neg hi, Array.getElem?_toList]
theorem set_map_same {α β : Type} (f : α → β) : ∀ (l : List α) (j : Nat) (x y : α), l[j]? = some x → f y = f x → (l.set j y).map f = l.map f
  | [], _, _, _, h, _ => by simp at h
  | a :: l, 0, x, y, h, e => by simp at h; subst h; simp [e]
  | a :: l, j + 1, x, y, h, e => by simp only [List.set_cons_succ, List.map_cons]; rw [set_map_same f l j x y (by simpa using h) e]
theorem run_tagSet {P : Program} {w : World} {G : Nat → Prop} {r : Nat} {t : za0} {ty k : Nat} {oa : Option Addr} {l : Bs} {cap : Nat} (ht : mapTB P ty = true) (h : TagsAt w G (some r) t) (hk : k < 4294967296) (hb : zaq w G oa l) :
    ∃ w', (Instr.mapUpdate ty (.map (some r)) (.int .u32 (k : Nat)) (.slice oa l.length cap)).run P w = .ok () w' ∧ Chg (fun n => n = r) w w' ∧ TagsAt w' G (some r) (tagSet t k l) := by
  obtain ⟨kt, et, hm, hd⟩ := mapTB_eq ht
  rcases h with h | ⟨r', es, clock, h1, h2, h3, h4, h5, h6, h7⟩
  · cases h.1
  simp only [Option.some.injEq] at h1
  subst h1
  have hkey : MapKept.IsKey (.int .u32) (.int .u32 (k : Nat)) := rfl
  have hchg : ∀ o : Obj, Chg (fun n => n = r) w { w with heap := w.heap.setIfInBounds r o } := fun o => ⟨rfl, rfl, rfl, by simp, fun j hj hx => by simp [Ne.symm hx]⟩
  have hnew : ∀ o : Obj, ({ w with heap := w.heap.setIfInBounds r o } : World).heap[r]? = some o := fun o => (MapKept.heap_set h3).1
  have hE : ∀ (o : Obj) (e : MapEntry) (x : Nat × Bs), RepE w G e x → RepE { w with heap := w.heap.setIfInBounds r o } G e x := by
    rintro o e x ⟨e1, e2, oa', cap', e3, e4⟩
    exact ⟨e1, e2, oa', cap', e3, e4.setMap h3 (hchg o)⟩
  have hks : ∀ x ∈ es.toList, MapKept.IsKey (.int .u32) x.key := by
    intro x hx
    obtain ⟨j, hj⟩ := List.mem_iff_getElem?.1 hx
    obtain ⟨b, _, hb'⟩ := h4.at_ hj
    rw [hb'.1]; rfl
  rcases MapKept.findNow_spec hkey es.toList 0 hks with ⟨f1, f2⟩ | ⟨j, e, f1, f2, f3⟩
  · refine ⟨_, by simp [Instr.mapUpdate, run_underlying hm, MapKept.run_getObj_map h3, MapKept.run_checkKey hd hkey, MapKept.run_findKey hd f1, MapKept.run_setObj_map _ h3, Result.andThen]; rfl, hchg _, .inr ⟨r, _, _, rfl, h2, hnew _, ?_, ?_, ?_, ?_⟩⟩
    · have hno : ∀ y ∈ t, y.1 ≠ k := by
        intro y hy e
        obtain ⟨a, ha, hr⟩ := h4.mem hy
        exact f2 a ha (by rw [hr.1, e])
      rw [tagSet_no t k l hno, Array.toList_push]
      exact (h4.imp fun a b => hE _ a b).snoc ⟨rfl, hk, oa, cap, rfl, hb.setMap h3 (hchg _)⟩
    · have hno : ∀ y ∈ t, y.1 ≠ k := by
        intro y hy e
        obtain ⟨a, ha, hr⟩ := h4.mem hy
        exact f2 a ha (by rw [hr.1, e])
      rw [tagSet_no t k l hno, List.map_append, List.nodup_append]
      refine ⟨h5, by simp, fun a ha b hb' e => ?_⟩
      simp at hb'
      obtain ⟨y, hy, hye⟩ := List.mem_map.1 ha
      exact hno y hy (by rw [hye, e, hb'])
    · rw [Array.toList_push, List.map_append, List.nodup_append]
      refine ⟨h6, by simp, fun a ha b hb' e => ?_⟩
      simp at hb'
      obtain ⟨y, hy, hye⟩ := List.mem_map.1 ha
      have := h7 y hy
      omega
    · intro e he
      rw [Array.toList_push] at he
      rcases List.mem_append.1 he with he | he
      · have := h7 e he; omega
      · simp at he; rw [he]; show clock < clock + 1; omega
  · obtain ⟨b, hb1, hb2⟩ := h4.at_ (j := j) (a := e) (by simpa using f2)
    have hke : b.1 = k := by
      have := hb2.1
      rw [f3] at this
      simp at this
      omega
    obtain ⟨b1, b2⟩ := b
    simp only at hke
    subst hke
    have hj : es[j]? = some e := by simpa using f2
    refine ⟨_, by simp [Instr.mapUpdate, run_underlying hm, MapKept.run_getObj_map h3, MapKept.run_checkKey hd hkey, MapKept.run_findKey hd f1, hj, f3, MapKept.run_keyThatStays hkey, MapKept.run_setObj_map _ h3, Result.andThen]; rfl, hchg _, .inr ⟨r, _, _, rfl, h2, hnew _, ?_, ?_, ?_, ?_⟩⟩
    · rw [modify_set _ hj, tagSet_at t j b1 b2 l hb1 h5]
      exact (h4.imp fun a b => hE _ a b).set j ⟨rfl, hk, oa, cap, rfl, hb.setMap h3 (hchg _)⟩
    · rw [tagSet_at t j b1 b2 l hb1 h5, set_map_same _ t j (b1, b2) (b1, l) hb1 rfl]; exact h5
    · rw [modify_set _ hj, set_map_same _ es.toList j e ⟨.int .u32 (b1 : Nat), .slice oa l.length cap, e.born⟩ f2 rfl]; exact h6
    · intro x hx
      rw [modify_set _ hj] at hx
      rcases List.mem_or_eq_of_mem_set hx with hx | hx
      · exact h7 x hx
      · rw [hx]; exact h7 e (List.mem_of_getElem? f2)
end Go.Proofs.YtojpodeljpfgaabDoor
namespace Go.Proofs.YtojpodeljpfgaabDoor
set_option linter.all false
open Go.RowKit
set_option maxRecDepth 10000
set_option maxHeartbeats 2000000
section
variable {P : Program} {ops : Array Oper} {Q : Exit → Act → World → Prop} {a : Act} {w : World} {rest : List Oper} {d : Option Nat} {ty : TypeId} {pos : String} {af : Array Edge}
theorem wl_eqlNilM {t u : TypeId} {x : Operand} {m : Option Nat} (ht : mapTB P t = true) (hx : a.eval x = .map m) (h : WL P ops Q rest (a.put d (.bool m.isNone)) w) :
    WL P ops Q (⟨d, .binOp .eql t x (.const (.map none)) u, ty, pos, af, none⟩ :: rest) a w := by
  obtain ⟨k, e, hu, _⟩ := mapTB_eq ht
  refine zaA rfl ?_ h
  simp [execOp, eqGuard, binOp, hx, zaf, run_equal_map_nil w t k e m hu]
theorem wl_makeMap {t : TypeId} (h : ∀ w', Chg (fun _ => False) w w' → w'.heap[w.heap.size]? = some (.map #[] 0) → w'.heap.size = w.heap.size + 1 → WL P ops Q rest (a.put d (.map (some w.heap.size))) w') :
    WL P ops Q (⟨d, .makeMap t none, ty, pos, af, none⟩ :: rest) a w :=
  zaA rfl (v := .map (some w.heap.size)) (w' := w.alloc (.map #[] 0)) rfl (h _ (Chg.alloc _ _ _) (heap_alloc_new w _) (by simp))
theorem wl_mapUpdate {t : TypeId} {x y z : Operand} {G : Nat → Prop} {r k : Nat} {tg : za0} {oa : Option Addr} {l : Bs} {cap : Nat} (ht : mapTB P t = true) (hx : a.eval x = .map (some r)) (hy : a.eval y = .int .u32 (k : Nat)) (hz : a.eval z = .slice oa l.length cap)
    (h1 : TagsAt w G (some r) tg) (hk : k < 4294967296) (hb : zaq w G oa l) (h : ∀ w', Chg (fun n => n = r) w w' → TagsAt w' G (some r) (tagSet tg k l) → WL P ops Q rest (a.put d undef) w') :
    WL P ops Q (⟨d, .mapUpdate t x y z, ty, pos, af, none⟩ :: rest) a w := by
  obtain ⟨w', hr, hc, ht'⟩ := run_tagSet (cap := cap) ht h1 hk hb
  exact wl_skip rfl (by simp only [execOp, Sem.run_bind, hx, hy, hz, hr]; rfl) (h w' hc ht')
end
abbrev tT : TypeId := 42
theorem foT : fOff Tryd.prog tT 0 = 0 := by kernel_rfl
theorem Set_c {w : World} {G : Nat → Prop} {B o k : Nat} {cs : List Value} {T : TypeId} {m : Option Nat} {tg : za0} {oa : Option Addr} {l : Bs} {cap : Nat} (hb : Blk w B cs T) (hm : cs[o]? = some (.map m)) (ht : TagsAt w G m tg) (hk : k < 4294967296) (hl : zaq w G oa l) (hB : ¬ G B) (hf : ∀ j, w.heap.size ≤ j → G j) :
    zaD Tryd.prog 39 #[.pointer (some ⟨B, o, none⟩), .int .u32 (k : Nat), .slice oa l.length cap] w fun _ w' => ∃ m', Blk w' B (zas cs o [.map m']) T ∧ TagsAt w' G m' (tagSet tg k l) ∧ Chg (fun j => j = B ∨ some j = m) w w' ∧ (m' = m ∨ ∃ r, m' = some r ∧ w.heap.size ≤ r) := by
  refine callsR_of0 Tryd.func39 rfl rfl Tryd.ntmps39 (by simp) ?_
  intro a hN hD ha
  have h0 : get a 0 = .pointer (some ⟨B, o, none⟩) := ha 0 _ rfl
  have h1 : get a 1 = .int .u32 (k : Nat) := ha 1 _ rfl
  have h2 : get a 2 = .slice oa l.length cap := ha 2 _ rfl
  have hlo : o < cs.length := (List.getElem?_eq_some_iff.1 hm).1
  have l0 := hb.ld hm
  refine wp_seq_k fun K hK => ?_; refine wp_seq_k fun K0 hK0 => ?_; refine zai ?_; (repeat ((with_reducible refine zaw ?_ ?_ ?_); (· simp [evb, pvb, rnb, kb, hN, h0, l0, foT, dyb, sdb] <;> omega); (· kernel_rfl); try simp only [evb, pvb, rnb, kb, hN, seval, h0, l0, foT]))
  refine wl_eqlNilM (m := m) (by kernel_rfl) (by simp only [evb, pvb, rnb, kb, hN, seval]) ?_
  refine zah ?_
  refine hK0 _ _ ?_; try clear hK0 K0
  cases m with
  | some r =>
    have hr : r ≠ B := by
      rcases ht with h | ⟨r', es, c, e1, e2, _⟩
      · cases h.1
      · cases e1; exact fun e => hB (e ▸ e2)
    refine wp_cond_false (by simp only [evb, pvb, rnb, kb, hN, seval] <;> rfl) ?_
    refine wp_skip ?_
    refine hK _ _ ?_
    clear hK K
    refine zai ?_; (repeat ((with_reducible refine zaw ?_ ?_ ?_); (· simp [evb, pvb, rnb, kb, hN, h0, h1, h2, l0, foT, dyb, sdb] <;> omega); (· kernel_rfl); try simp only [evb, pvb, rnb, kb, hN, seval, h0, h1, h2, l0, foT]))
    refine wl_mapUpdate (r := r) (k := k) (oa := oa) (l := l) (cap := cap) (by kernel_rfl) (by simp only [evb, pvb, rnb, kb, hN, seval]) (by simp only [evb, pvb, rnb, kb, hN, seval]) (by simp only [evb, pvb, rnb, kb, hN, seval]) ht hk hl fun w1 hc1 ht1 => ?_
    refine zah ⟨by simp only [zaj, hD], some r, ?_, ht1, hc1.mono fun j _ h => by rw [h]; exact .inr rfl, .inl rfl⟩
    have hsp : zas cs o [.map (some r)] = cs := by
      apply List.ext_getElem?
      intro j
      by_cases c1 : j < o
      · rw [zaO (by simp; omega) c1]
      · by_cases c2 : j = o
        · subst c2
          have := splice_mid (l := cs) (vs := [Value.map (some r)]) (i := j) (k := 0) (by simp; omega) (by simp)
          rw [Nat.add_zero] at this
          rw [this, hm]; rfl
        · rw [zaV (by simp; omega) (by simp; omega)]
    rw [hsp]
    exact hb.chg hc1 fun e => hr e.symm
  | none =>
    have htg : tg = [] := by
      rcases ht with h | ⟨r', es, c, e1, e2, _⟩
      · exact h.2
      · cases e1
    subst htg
    refine wp_cond_true (by simp only [evb, pvb, rnb, kb, hN, seval] <;> rfl) ?_
    refine zai ?_; (repeat ((with_reducible refine zaw ?_ ?_ ?_); (· simp [evb, pvb, rnb, kb, hN, h0, dyb, sdb] <;> omega); (· kernel_rfl); try simp only [evb, pvb, rnb, kb, hN, seval, h0]))
    refine wl_makeMap fun w1 hc1 hm1 hs1 => ?_
    (repeat ((with_reducible refine zaw ?_ ?_ ?_); (· simp [evb, pvb, rnb, kb, hN, h0, foT, dyb, sdb] <;> omega); (· kernel_rfl); try simp only [evb, pvb, rnb, kb, hN, seval, h0, foT]))
    refine zaX (b := B) (o := o) (n := 1) (v := .map (some w.heap.size)) (by kernel_rfl) (by simp only [evb, pvb, rnb, kb, hN, seval]) (by simp only [evb, pvb, rnb, kb, hN, seval]) (hb.chg hc1 fun h => h) rfl (by intro y hy; simp only [Value.cells, List.mem_singleton] at hy; subst hy; rfl) (by omega) fun w2 hb2 hc2 => ?_
    refine zah (hK _ _ ?_)
    clear hK K
    have hlt := hb.lt
    have l2 := hb2.ld (i := o) (v := .map (some w.heap.size)) (by
      have := splice_mid (l := cs) (vs := [Value.map (some w.heap.size)]) (i := o) (k := 0) (by simp; omega) (by simp)
      rw [Nat.add_zero] at this
      exact this)
    have ht2 : TagsAt w2 G (some w.heap.size) [] := .inr ⟨w.heap.size, #[], 0, rfl, hf _ (Nat.le_refl _), by rw [hc2.block _ (by omega) (by omega)]; exact hm1, .nil, List.nodup_nil, List.nodup_nil, fun e h => by simp at h⟩
    have hl2 : zaq w2 G oa l := (hl.chg hc1 fun _ _ _ h => h).chg hc2 fun g hg _ e => hB (e ▸ hg)
    refine zai ?_; (repeat ((with_reducible refine zaw ?_ ?_ ?_); (· simp [evb, pvb, rnb, kb, hN, h0, h1, h2, l2, foT, dyb, sdb] <;> omega); (· kernel_rfl); try simp only [evb, pvb, rnb, kb, hN, seval, h0, h1, h2, l2, foT]))
    refine wl_mapUpdate (r := w.heap.size) (k := k) (oa := oa) (l := l) (cap := cap) (by kernel_rfl) (by simp only [evb, pvb, rnb, kb, hN, seval]) (by simp only [evb, pvb, rnb, kb, hN, seval]) (by simp only [evb, pvb, rnb, kb, hN, seval]) ht2 hk hl2 fun w3 hc3 ht3 => ?_
    refine zah ⟨by simp only [zaj, hD], some w.heap.size, hb2.chg hc3 (by omega), ht3, ?_, .inr ⟨_, rfl, Nat.le_refl _⟩⟩
    exact (((hc1.mono (Y := fun j => j = B ∨ some j = none) fun _ _ h => h.elim).trans hc2 fun n _ h => .inl h).trans hc3 fun n hn h => by omega).mono fun n _ h => by
      rcases h with h | h
      · exact .inl h
      · cases h
def outTg (_ w' : World) (G : Nat → Prop) (x : za0) (v : Value) : Prop := ∃ m, v = .agg #[.map m] ∧ TagsAt w' G m x
theorem internalReadTags_c : RdF 37 [] rTags outTg := by
  intro w G R st hS hR hf
  refine callsR_ofC Tryd.func37 rfl rfl (by kernel_rfl) Tryd.ntmps37 (by simp) ?_
  intro a hN hD ha
  have h0 : get a 0 = .pointer (some ⟨R, 0, none⟩) := ha 0 _ rfl
  have hltR := hS.lt
  refine wp_seq_k fun K hK => ?_; refine zai ?_
  refine wl_allocA (z := aggOf [.map none]) (fun w => Tryd.zeroValue42 w) fun w1 hc1 hb1 hs1 => ?_
  refine zah ?_; refine hK _ _ ?_; clear hK K
  refine wp_seq_k fun K hK => ?_; refine zai ?_
  refine wl_allocA (z := aggOf [.map none]) (fun w => Tryd.zeroValue42 w) fun w2 hc2 hb2 hs2 => ?_
  refine zah ?_; refine hK _ _ ?_; clear hK K
  have hs12 : w2.heap.size = w.heap.size + 2 := by omega
  have hc12 : Chg (fun _ => False) w w2 := hc1.trans hc2 fun _ _ h => h
  obtain ⟨G', hG'⟩ : ∃ G' : Nat → Prop, G' = fun k => G k ∧ k ≠ w.heap.size ∧ k ≠ w1.heap.size := ⟨_, rfl⟩
  have hS2 : RdS w2 G' R st := hS.stay ⟨fun k hk hg => ⟨hc12.block k hk fun h => h, by rw [hG']; exact ⟨hg, by omega, by omega⟩⟩⟩ (hc12.block R hltR fun h => h)
  have hR' : ¬ G' R := by rw [hG']; exact fun h => hR h.1
  have hf' : ∀ k, w2.heap.size ≤ k → G' k := fun k hk => by rw [hG']; exact ⟨hf k (by omega), by omega, by omega⟩
  have hB3 : ¬ G' w1.heap.size := by rw [hG']; exact fun h => h.2.2 rfl
  have hB2 : Blk w2 w.heap.size [.map none] tT := hb1.chg hc2 fun h => h
  have hB3b : Blk w2 w1.heap.size [.map none] tT := hb2
  refine wp_seq_k fun K9 hK9 => ?_; refine wp_seq_k fun K0 hK0 => ?_; refine zai ?_
  (repeat ((with_reducible refine zaw ?_ ?_ ?_); (· simp [evb, pvb, rnb, kb, hN, h0, dyb, sdb] <;> omega); (· kernel_rfl); try simp only [evb, pvb, rnb, kb, hN, seval, h0]))
  refine wl_rd (fun args w => Tryd.call38 args w) Uvarint_m (by simp only [List.map_toArray, List.map_cons, List.map_nil]; simp only [evb, pvb, rnb, kb, hN, seval, h0]) hS2 hR' hf' ?_
  intro v3 w3 hr3
  obtain ⟨n, ⟨rfl, hn⟩, k3⟩ := hr3.val
  (repeat ((with_reducible refine zaw ?_ ?_ ?_); (· simp [evb, pvb, rnb, kb, hN, dyb, sdb] <;> omega); (· kernel_rfl); try simp only [evb, pvb, rnb, kb, hN, seval]))
  refine zah ?_
  refine hK0 _ _ ?_; try clear hK0 K0
  obtain ⟨a3, ha3⟩ : ∃ a3, a3 = (((((a.put (some 2) (.pointer (some ⟨w.heap.size, 0, none⟩))).put (some 3) (.pointer (some ⟨w1.heap.size, 0, none⟩))).put (some 7) (.pointer (some ⟨R, 0, none⟩))).put (some 8) (.int .u32 n)).put (some 4) (.int .u32 n)) := ⟨_, rfl⟩
  rw [← ha3]
  have hN3 : a3.tmps.size = 24 := by rw [ha3]; simp only [zae]; exact hN
  have hD3 : a3.defers = [] := by rw [ha3]; simp only [zaj]; exact hD
  have g30 : get a3 0 = .pointer (some ⟨R, 0, none⟩) := by rw [ha3]; simp only [evb, pvb, rnb, kb, hN, seval, h0]
  have g32 : get a3 2 = .pointer (some ⟨w.heap.size, 0, none⟩) := by rw [ha3]; simp only [evb, pvb, rnb, kb, hN, seval]
  have g33 : get a3 3 = .pointer (some ⟨w1.heap.size, 0, none⟩) := by rw [ha3]; simp only [evb, pvb, rnb, kb, hN, seval]
  have g34 : get a3 4 = .int .u32 n := by rw [ha3]; simp only [evb, pvb, rnb, kb, hN, seval]
  clear ha3
  have hall3 : Chg (fun k => k = R) w w3 := (hc12.mono (Y := fun k => k = R) fun _ _ h => h.elim).trans hr3.chg fun _ _ h => h
  have htot : st.bind rTags = ((st.bind zav).map (·.2)).bind (rTagsN n []) := by
    cases st with
    | none => rfl
    | some bs =>
      simp only [Option.bind_some] at k3 ⊢
      unfold rTags
      cases hh : zav bs with
      | none => rfl
      | some y => simp only [Option.bind_some, Option.map_some]; rw [k3 y hh]
  refine wp_block ?_
  refine wp_loop (fun a' w' => ∃ (j : Nat) (tg : za0) (m : Option Nat) (sc : Option Bs), get a' 4 = .int .u32 j ∧ j < 4294967296 ∧ zam (fun t => t = 0 ∨ t = 2 ∨ t = 3) a3 a' ∧ Chg (fun k => k = R) w w' ∧ Blk w' w.heap.size [.map none] tT ∧ Blk w' w1.heap.size [.map m] tT ∧
      TagsAt w' G' m tg ∧ RdS w' G' R sc ∧ w2.heap.size ≤ w'.heap.size ∧ (∀ r, m = some r → w2.heap.size ≤ r) ∧ st.bind rTags = sc.bind (rTagsN j tg)) (fun a' _ => (intOf (get a' 4)).toNat) ?_ ?_
  · exact ⟨n, [], none, _, g34, hn, zam.refl _ _, hall3, hB2.chg hr3.chg (by omega), hB3b.chg hr3.chg (by omega), .inl ⟨rfl, rfl⟩, hr3.rd, hr3.chg.size, (fun r h => by cases h), htot⟩
  rintro a4 w4 ⟨j, tg, m, sc, gj, hj, hk4, hc4, hb42, hb43, htg, hS4, hsz4, hmn, htot4⟩
  have hN : a4.tmps.size = 24 := hk4.size.trans hN3
  have hD4 : a4.defers = [] := hk4.defers.trans hD3
  have g40 := (hk4.slot 0 (.inl rfl)).trans g30
  have g42 := (hk4.slot 2 (.inr (.inl rfl))).trans g32
  have g43 := (hk4.slot 3 (.inr (.inr rfl))).trans g33
  refine wp_seq_k fun K hK => ?_; refine wp_seq_k fun K0 hK0 => ?_; refine zai ?_; (repeat ((with_reducible refine zaw ?_ ?_ ?_); (· simp [evb, pvb, rnb, kb, hN, gj, dyb, sdb] <;> omega); (· kernel_rfl); try simp only [evb, pvb, rnb, kb, hN, seval, gj])); refine zah ?_; refine hK0 _ _ ?_; try clear hK0 K0
  by_cases hz : j = 0
  · subst hz
    have e1 : decide ((0 : Int) < ((0 : Nat) : Int)) = false := rfl
    refine wp_cond_false (by simp only [evb, pvb, rnb, kb, hN, seval] <;> rfl) ?_
    refine wp_exit ?_
    simp only [Exit.then, Exit.inBlock, if_pos]
    refine hK9 _ _ ?_
    clear hK K
    refine wp_seq_k fun K hK => ?_; refine zai ?_
    refine wl_loadAgg (b := w1.heap.size) (o := 0) (n := 1) (by kernel_rfl) (by kernel_rfl) (by simp only [evb, pvb, rnb, kb, hN, seval, g43]) hb43 (by simp) ?_
    refine wl_storeAll (b := w.heap.size) (n := 1) (l' := [.map m]) (by kernel_rfl) (by simp only [evb, pvb, rnb, kb, hN, seval, g42]) (by simp only [evb, pvb, rnb, kb, hN, seval] <;> rfl) hb42 rfl (by intro y hy; simp only [List.mem_singleton] at hy; subst hy; rfl) rfl fun w5 hb5 hc5 => ?_
    refine zah ?_; refine hK _ _ ?_; clear hK K
    have st5 : Stay w4 w5 G' G := ⟨fun k hk hg => by
      rw [hG'] at hg
      exact ⟨hc5.block k hk hg.2.1, hg.1⟩⟩
    refine wp_ret ⟨by simp [zaj, hD4], w.heap.size, _, _, by simp only [evb, pvb, rnb, kb, hN, seval, g42], hb5, by kernel_rfl, ?_⟩
    have e2 : st.bind rTags = sc.map fun bs => (tg, bs) := by rw [htot4]; cases sc <;> rfl
    refine ⟨hc4.trans (hc5.mono (Y := fun k => k = w.heap.size) fun _ _ h => h) fun k hk h => by omega, ?_, tg, ⟨m, rfl, htg.stay st5⟩, fun y hy => ?_⟩
    · rw [e2, Option.map_map]
      have e3 : sc.map ((·.2) ∘ fun bs => (tg, bs)) = sc := by cases sc <;> rfl
      rw [e3]
      exact hS4.stay st5 (hc5.block R hS4.lt (by omega))
    · rw [e2] at hy
      cases sc with
      | none => cases hy
      | some bs => simp only [Option.map_some, Option.some.injEq] at hy; rw [← hy]
  · have e1 : decide ((0 : Int) < (j : Int)) = true := decide_eq_true (by omega)
    refine wp_cond_true (by simp only [evb, pvb, rnb, kb, hN, seval, e1]) ?_
    refine wp_skip (hK _ _ ?_)
    clear hK K
    have hf4 : ∀ k, w4.heap.size ≤ k → G' k := fun k hk => hf' k (by omega)
    refine wp_seq_k fun K hK => ?_
    refine wp_block ?_
    refine wp_seq_k fun K0 hK0 => ?_; refine zai ?_; (repeat ((with_reducible refine zaw ?_ ?_ ?_); (· simp [evb, pvb, rnb, kb, hN, g40, dyb, sdb] <;> omega); (· kernel_rfl); try simp only [evb, pvb, rnb, kb, hN, seval, g40]))
    refine wl_rd (fun args w => Tryd.call38 args w) Uvarint_m (by simp only [List.map_toArray, List.map_cons, List.map_nil]; simp only [evb, pvb, rnb, kb, hN, seval, g40]) hS4 hR' hf4 ?_
    intro v5 w5 hr5
    obtain ⟨x1, ⟨rfl, hx1⟩, k5⟩ := hr5.val
    (repeat ((with_reducible refine zaw ?_ ?_ ?_); (· simp [evb, pvb, rnb, kb, hN, g40, dyb, sdb] <;> omega); (· kernel_rfl); try simp only [evb, pvb, rnb, kb, hN, seval, g40]))
    refine wl_rd (fun args w => Tryd.call38 args w) Uvarint_m (by simp only [List.map_toArray, List.map_cons, List.map_nil]; simp only [evb, pvb, rnb, kb, hN, seval, g40]) hr5.rd hR' (fresh_on hr5.chg hf4) ?_
    intro v6 w6 hr6
    obtain ⟨x2, ⟨rfl, hx2⟩, k6⟩ := hr6.val
    (repeat ((with_reducible refine zaw ?_ ?_ ?_); (· simp [evb, pvb, rnb, kb, hN, dyb, sdb] <;> omega); (· kernel_rfl); try simp only [evb, pvb, rnb, kb, hN, seval]))
    refine zah ?_
    refine hK0 _ _ ?_; try clear hK0 K0
    refine zai ?_; (repeat ((with_reducible refine zaw ?_ ?_ ?_); (· simp [evb, pvb, rnb, kb, hN, g40, i64_sm (x2 : Int) (by omega), dyb, sdb] <;> omega); (· kernel_rfl); try simp only [evb, pvb, rnb, kb, hN, seval, g40, i64_sm (x2 : Int) (by omega)]))
    refine wl_rd (fun args w => Tryd.call40 args w) (Span_c x2) (by simp only [List.map_toArray, List.map_cons, List.map_nil]; simp only [evb, pvb, rnb, kb, hN, seval, g40]) hr6.rd hR' (fresh_on hr6.chg (fresh_on hr5.chg hf4)) ?_
    intro v7 w7 hr7
    obtain ⟨l, ⟨oa, cap, rfl, _, hbl⟩, k7⟩ := hr7.val
    have hc47 : Chg (fun k => k = R) w4 w7 := (hr5.chg.trans hr6.chg fun _ _ h => h).trans hr7.chg fun _ _ h => h
    have hX : ∀ k, G' k → k < w4.heap.size → ¬ k = R := fun k hk _ e => hR' (e ▸ hk)
    refine zaH (fun args w => Tryd.call39 args w) (by
      simp only [List.map_toArray, List.map_cons, List.map_nil]; simp only [evb, pvb, rnb, kb, hN, seval, g43]
      exact Set_c (hb43.chg hc47 (by omega)) rfl (htg.stay (Stay.of hc47 hX)) hx1 hbl hB3 (fresh_on hc47 hf4)) ?_
    rintro _ w8 ⟨m', hb8, ht8, hc8, hm8⟩
    refine zah ?_
    refine hK _ _ ?_
    clear hK K
    have e32 : IntKind.u32.wrap ((j : Int) - 1) = ((j - 1 : Nat) : Int) := by
      have : (j : Int) - 1 = ((j - 1 : Nat) : Int) := by omega
      rw [this]; exact wrapU rfl (by show _ < 4294967296; omega)
    have hN8 : ∀ a' : Act, a'.tmps.size = 24 → a'.tmps.size = 24 := fun _ h => h
    refine zai ?_; (repeat ((with_reducible refine zaw ?_ ?_ ?_); (· simp [evb, pvb, rnb, kb, hN, gj, e32, dyb, sdb] <;> omega); (· kernel_rfl); try simp only [evb, pvb, rnb, kb, hN, seval, gj, e32]))
    refine zah ?_
    have hmm : ∀ k, some k = m → G' k := by
      intro k hk
      rcases htg with h | ⟨r', es, c, e1', e2', _⟩
      · rw [h.1] at hk; cases hk
      · rw [e1'] at hk; cases hk; exact e2'
    have hne8 : ∀ k, k < w.heap.size + 2 → ¬ (k = w1.heap.size ∨ some k = m) ∨ k = w1.heap.size ∨ G' k := fun k _ => by
      by_cases h : k = w1.heap.size
      · exact .inr (.inl h)
      · by_cases h2 : some k = m
        · exact .inr (.inr (hmm k h2))
        · exact .inl (by rintro (h3 | h3); exact h h3; exact h2 h3)
    have hb82 : Blk w8 w.heap.size [.map none] tT := (hb42.chg hc47 (by omega)).chg hc8 (by
      rintro (h | h)
      · omega
      · have := hmm _ h
        rw [hG'] at this
        exact this.2.1 rfl)
    have hR8 : ¬ (R = w1.heap.size ∨ some R = m) := by
      rintro (h | h)
      · omega
      · exact hR' (hmm _ h)
    have hS8 : RdS w8 G' R (((((sc.bind zav).map (·.2)).bind zav).map (·.2)).bind (rSpan x2) |>.map (·.2)) := by
      have h7 := hr7.rd
      cases hh : ((((sc.bind zav).map (·.2)).bind zav).map (·.2)).bind (rSpan x2) |>.map (·.2) with
      | none => rw [hh] at h7; exact (hc8.block R h7.lt hR8).trans h7
      | some bs =>
        rw [hh] at h7
        obtain ⟨oa', cap', q1, q2, q3⟩ := h7
        refine ⟨oa', cap', (hc8.block R q1.lt hR8).trans q1, q2, ?_⟩
        rcases q3 with q3 | ⟨b, o, l', T', p1, p2, p3, p4⟩
        · exact .inl q3
        · refine .inr ⟨b, o, l', T', p1, p2, p3.chg hc8 ?_, p4⟩
          rintro (h | h)
          · rw [hG'] at p2; exact p2.2.2 h
          · rcases htg with h' | ⟨r', es, c, e1', e2', e3', _⟩
            · rw [h'.1] at h; cases h
            · rw [e1'] at h
              cases h
              have hlt4 : b < w4.heap.size := (Array.getElem?_eq_some_iff.1 e3').1
              have := hc47.block b hlt4 (hX b e2' hlt4)
              obtain ⟨fz3, p3⟩ := p3
              rw [this, e3'] at p3
              cases p3
    have hgrow := hc47.size
    have hgrow8 := hc8.size
    refine ⟨⟨j - 1, tagSet tg x1 l, m', _, by simp only [evb, pvb, rnb, kb, hN, seval], by omega, ?_, (hc4.trans hc47 fun _ _ h => h).trans hc8 fun k hk h => ?_, hb82, hb8, ht8, hS8, by omega, fun r hr => ?_, ?_⟩, ?_⟩
    · refine hk4.trans ?_
      repeat (refine zam.put ?_ (by omega) _)
      exact zam.refl _ _
    · rcases h with h | h
      · omega
      · have := hmn k h.symm
        omega
    · rcases hm8 with h | ⟨r', h, h2⟩
      · exact hmn r (h ▸ hr)
      · rw [hr] at h; cases h; omega
    · rw [htot4]
      obtain ⟨i, rfl⟩ : ∃ i, j = i + 1 := ⟨j - 1, by omega⟩
      rw [Nat.add_sub_cancel]
      cases sc with
      | none => rfl
      | some bs =>
        simp only [Option.bind_some] at k5 k6 k7 ⊢
        rw [rTagsN]
        unfold rTag
        cases h1 : zav bs with
        | none => rfl
        | some y1 =>
          rw [h1] at k6 k7
          simp only [Option.map_some, Option.bind_some] at k6 k7 ⊢
          cases h2 : zav y1.2 with
          | none => rfl
          | some y2 =>
            rw [h2] at k7
            simp only [Option.map_some, Option.bind_some] at k7 ⊢
            rw [← k6 y2 h2]
            cases h3 : rSpan (x2 : Int) y2.2 with
            | none => rfl
            | some y3 =>
              simp only [Option.map_some, Option.bind_some]
              rw [k5 y1 h1, k7 y3 h3]
    · simp only [evb, pvb, rnb, kb, hN, seval]
      simp only [intOf]
      omega
end Go.Proofs.YtojpodeljpfgaabDoor
namespace Go.Proofs.YtojpodeljpfgaabDoor
set_option linter.all false
open Go.RowKit
set_option maxRecDepth 10000
set_option maxHeartbeats 2000000
section
variable {y0 y1 y2 y3 y4 y5 y6 y7 y8 y9 y10 y11 y12 y13 y14 y15 y16 y17 y18 y19 y20 y21 y22 y23 y24 y25 y26 y27 y28 y29 y30 y31 y32 y33 y34 y35 y36 y37 y38 y39 : TypeId} {q0 q1 q2 q3 q4 q5 q6 q7 q8 q9 q10 q11 q12 q13 q14 q15 q16 q17 q18 q19 q20 q21 q22 q23 q24 q25 q26 q27 q28 q29 q30 q31 q32 q33 q34 q35 q36 q37 q38 q39 : String} {e0 e1 e2 e3 e4 e5 e6 e7 e8 e9 e10 e11 e12 e13 e14 e15 e16 e17 e18 e19 e20 e21 e22 e23 e24 e25 e26 e27 e28 e29 e30 e31 e32 e33 e34 e35 e36 e37 e38 e39 : Array Edge} {r0 r1 r2 r3 r4 r5 : Nat}
variable {r6 r7 r8 r9 r10 r11 r12 r13 : Nat}
variable {E : REnv} {m mB sS k0 i I x y ys aS iS lS vS t1 t2 t3 t4 t5 t6 t7 t8 t9 t10 t11 t12 t13 t14 t15 t16 t17 w1' w2' w3' w4' w5' u1 u2 u3 u4 u5 v1 v2 v3 v4 b1 b2 ug uo uc ui : Nat} {fs sub : List Fld} {pre : S → Prop} {c c1 c2 body cl cn cr : Code} {us us2 us3 : Array TypeId} {fn : FuncId} {T ty ti idx off ua uoT tyV tyW tyE sz : Nat} {a1 a2 a3 a4 a5 : Int} {of : K} {z : Value} {f : Fld} {sem : Bs → Option (D × Bs)} {tl semS : Sem}
theorem rf_list (hf : fs[i]? = some (.mk .list a1 a2 a3 a4 a5 of sub))
    (hB2 : (decide (a3 < 0) && roomB Tryd.prog ty (eszR E of sub) && intTB Tryd.prog ti && sliceB Tryd.prog ty (eSz Tryd.prog ty) && decide (6 < E.N) && decide (fsz E.fl (.mk .list a1 a2 a3 a4 a5 of sub) = 1) && zaR Tryd.prog T idx (k0 + foff E.fl fs i) 1 && sizeB Tryd.prog ty 1 && scalB Tryd.prog ty) = true)
    (hz : ∃ z : Value, (∀ e, (Tryd.prog).underlying ty = some (.slice e) → zeroB Tryd.prog e z) ∧ z.cells.size = eszR E of sub ∧ ElC E mB aS iS (eszR E of sub) (oneR E of sub) (repR E of sub) z.cells.toList body)
    (hOk : zaK Tryd.prog 28) (hCo : zaK Tryd.prog 29) (hl : RnC E lS lS cl)
    (hS : (rsl E m [w1', w2', w3', w4', vS, w5', aS, lS] [sS, E.rr] && (decide (aS < lS) && decide (aS ≠ 6) && decide (m ≤ lS)) && rsl E iS [t1, t2, t3] [E.rr, aS, lS] && rsl E iS [t4, t5] [aS, lS] && rsl E iS [t6, t7, t8, t9, t10] [aS, lS] &&
      rsl E mB [u1, u2, u3, u4, u5] [E.rr, aS, iS, lS] && rsl E iS [iS] [aS, lS] && rsl E m [t11, vS] [] && rsl E m [v1, v2, v3, v4] [sS, E.rr] && [v1, v2, v3, v4].all (fun t => decide (t ≠ vS)) && rsl E m [aS] [] && (decide (m ≤ iS) && decide (aS ≠ lS))) = true) :
    RdC E m sS k0 fs (i + 1) (Fresh fs i) (semSet i (decF E.flex E.ver (.mk .list a1 a2 a3 a4 a5 of sub)))
      (.seq (.region r10 #[⟨some w1', .move (.tmp sS), y0, q0, e0, none⟩, ⟨some w2', .nilCheck (.tmp w1'), y1, q1, e1, none⟩, ⟨some w3', .fieldAddr T (.tmp w2') idx, y2, q2, e2, none⟩, ⟨some w4', .load ty (.tmp w3'), y3, q3, e3, none⟩, ⟨some vS, .assign (.tmp w4'), y4, q4, e4, none⟩] false)
        (.seq (.region r11 #[⟨some w5', .move (.tmp vS), y5, q5, e5, none⟩, ⟨some aS, .assign (.tmp w5'), y6, q6, e6, none⟩] false)
          (.seq (.region r12 #[⟨some lS, .assign (.const (.int .i32 0)), y7, q7, e7, none⟩] false) (.seq cl
      (.seq (.seq (.region r0 #[⟨some t1, .call { callee := .value (.func 28), args := #[.tmp E.rr], argTypes := us }, y8, q8, e8, none⟩, ⟨some t2, .unOp .not uo (.tmp t1), y9, q9, e9, none⟩] false)
        (.cond (.tmp t2) (.seq (.region r1 #[⟨some t3, .call { callee := .value (.func 29), args := #[.tmp E.rr], argTypes := us2 }, y10, q10, e10, none⟩, ⟨some 6, .assign (.tmp t3), y11, q11, e11, none⟩] false) .ret) .skip))
      (.seq (.region r2 #[⟨some t4, .move (.tmp aS), y12, q12, e12, none⟩, ⟨some t5, .slice ty (.tmp t4) none (some (.const (.int .i64 0))) none, y13, q13, e13, none⟩, ⟨some aS, .assign (.tmp t5), y14, q14, e14, none⟩] false)
      (.seq (.seq (.region r3 #[⟨some t6, .move (.tmp lS), y15, q15, e15, none⟩, ⟨some t7, .binOp .gtr ug (.tmp t6) (.const (.int .i32 0)) ug, y16, q16, e16, none⟩] false)
          (.cond (.tmp t7) (.region r4 #[⟨some t8, .move (.tmp aS), y17, q17, e17, none⟩, ⟨some t9, .move (.tmp lS), y18, q18, e18, none⟩, ⟨some t10, .call { callee := .builtin .append, args := #[.tmp t8, .tmp t9], argTypes := #[ty, ti] }, y19, q19, e19, none⟩, ⟨some aS, .assign (.tmp t10), y20, q20, e20, none⟩] false) .skip))
      (.seq (.seq (.region r5 #[⟨some iS, .assign (.const (.int .i32 0)), y21, q21, e21, none⟩] false) (.block b1 (.loop (.seq (.seq (.region r6 #[⟨some u1, .move (.tmp iS), y22, q22, e22, none⟩, ⟨some u2, .move (.tmp lS), y23, q23, e23, none⟩, ⟨some u3, .binOp .lss ua (.tmp u1) (.tmp u2) ua, y24, q24, e24, none⟩] false) (.cond (.tmp u3) .skip (.exit b1)))
          (.seq (.block b2 body) (.region r7 #[⟨some u4, .move (.tmp iS), y25, q25, e25, none⟩, ⟨some u5, .binOp .add ua (.tmp u4) (.const (.int .i32 1)) ua, y26, q26, e26, none⟩, ⟨some iS, .assign (.tmp u5), y27, q27, e27, none⟩] false))))))
        (.seq (.region r8 #[⟨some t11, .move (.tmp aS), y28, q28, e28, none⟩, ⟨some vS, .assign (.tmp t11), y29, q29, e29, none⟩] false) (.region r9 #[⟨some v1, .move (.tmp sS), y30, q30, e30, none⟩, ⟨some v2, .move (.tmp vS), y31, q31, e31, none⟩, ⟨some v3, .nilCheck (.tmp v1), y32, q32, e32, none⟩, ⟨some v4, .fieldAddr T (.tmp v3) idx, y33, q33, e33, none⟩, ⟨none, .store ty (.tmp v4) (.tmp v2), y34, q34, e34, none⟩] false))))))))))  := by
  simp only [Bool.and_eq_true] at hB2 hS
  obtain ⟨⟨⟨⟨⟨⟨⟨⟨n1, n2⟩, n3⟩, n4⟩, n5⟩, n6⟩, n7⟩, n8⟩, n9⟩ := hB2
  obtain ⟨⟨⟨⟨⟨⟨⟨⟨⟨⟨⟨p1, p2⟩, p3⟩, p4⟩, p5⟩, p6⟩, p7⟩, p8⟩, p9⟩, p10⟩, p11⟩, p12⟩ := hS
  obtain ⟨z, hz1, hz2, hbody⟩ := hz
  have a3n : a3 < 0 := of_decide_eq_true n1
  refine rf_listX hf (by simp only [Bool.and_eq_true]; exact ⟨⟨n6, n7⟩, n9⟩) hl p1 (by simp only [Bool.and_eq_true]; exact p2) ?_
  intro a0 a w0 w O R B p st s L hB hP hk hc hrs hll gl hL ga
  refine rl_rest hf (by simp only [Bool.and_eq_true]; exact ⟨⟨⟨n2, n3⟩, n4⟩, n5⟩) (by simp only [Bool.and_eq_true]; exact ⟨⟨n6, n7⟩, n8⟩) hz1 hz2 hOk hCo hbody p3 p4 p5 p6 p7 p8 p9 p10 p11 (by simp only [Bool.and_eq_true]; exact p12) hB hP hk hc hrs hll gl hL ga ?_
  intro y _
  unfold nilArr
  rw [if_pos a3n]
  by_cases h : 0 < y.1
  · rw [if_pos h]; exact (decide_eq_false (by omega)).symm
  · rw [if_neg h]; exact (decide_eq_true (by omega)).symm
theorem rTags_less : Less rTags := by
  have hu : Less zav := by
    intro bs x r h
    unfold zav at h
    repeat' (split at h)
    all_goals first | (cases h; done) | skip
    all_goals (simp only [Option.some.injEq, Prod.mk.injEq] at h; obtain ⟨_, rfl⟩ := h; simp only [List.length_cons]; omega)
  have ht : ∀ k : Nat, Less (take? k) := fun k bs x r h => by
    unfold take? at h
    split at h
    · simp only [Option.some.injEq, Prod.mk.injEq] at h; rw [← h.2, List.length_drop]; omega
    · cases h
  have hsp : ∀ l : Int, Less (rSpan l) := fun l bs x r h => by
    unfold rSpan at h
    split at h
    · exact ht _ bs x r h
    · cases h
  have hn : ∀ (n : Nat) (t : za0), Less (rTagsN n t) := by
    intro n
    induction n with
    | zero => intro t bs x r h; simp only [rTagsN, Option.some.injEq, Prod.mk.injEq] at h; rw [h.2]; exact Nat.le_refl _
    | succ n ih =>
      intro t bs x r h
      rw [rTagsN] at h
      unfold rTag at h
      cases h1 : zav bs with
      | none => rw [h1] at h; cases h
      | some y1 =>
        rw [h1, Option.bind_some] at h
        cases h2 : zav y1.2 with
        | none => rw [h2] at h; cases h
        | some y2 =>
          rw [h2, Option.bind_some] at h
          cases h3 : rSpan (y2.1 : Int) y2.2 with
          | none => rw [h3] at h; cases h
          | some y3 =>
            rw [h3] at h
            simp only [Option.map_some, Option.bind_some] at h
            have e1 := hu bs y1.1 y1.2 h1
            have e2 := hu y1.2 y2.1 y2.2 h2
            have e3 := hsp _ y2.2 y3.1 y3.2 h3
            have e4 := ih _ _ _ _ h
            omega
  intro bs x r h
  unfold rTags at h
  cases h1 : zav bs with
  | none => rw [h1] at h; cases h
  | some y1 =>
    rw [h1, Option.bind_some] at h
    have e1 := hu bs y1.1 y1.2 h1
    have e2 := hn _ _ _ _ _ h
    omega
theorem at_tags {w w' : World} {G : Nat → Prop} {fs : List Fld} {s : S} {B o : Nat} {t : za0} {m : Option Nat} {cs : List Value} {T : TypeId} {X : Nat → Prop} (h : At w G true fs s B o) (ht : TagsAt w' G m t) (hok : tagOK t)
    (hb : Blk w B cs T) (hb' : Blk w' B (zas cs (o + lsz true fs) [.map m]) T) (hc : Chg X w w') (hX : ∀ k, G k → k < w.heap.size → ¬ X k) : At w' G true fs { s with tags := t } B o := by
  obtain ⟨cs0, T0, h1, h2, v1, v2, h3, h4, h5⟩ := h
  obtain ⟨rfl, rfl⟩ := h1.inj hb
  have st : Stay w w' G G := Stay.of hc hX
  have l1 := h4.len.1
  have l2 := h5.len
  rw [if_pos rfl] at l2
  have hsz : ssz true fs = lsz true fs + 1 := rfl
  have hlen : o + lsz true fs + ([.map m] : List Value).length ≤ cs0.length := by simp only [List.length_singleton]; omega
  refine ⟨_, _, hb', by rw [zaG hlen]; exact h2, v1, [.map m], ?_, RepL.stay st h4, ?_⟩
  · rw [seg_splice (by simp only [List.length_singleton]; omega) h2, h3]
    unfold zas
    rw [List.take_append_of_le_length (by omega), List.take_of_length_le (by omega), List.drop_of_length_le (by simp only [List.length_append, List.length_singleton]; omega), List.append_nil]
  · unfold RepT
    rw [if_pos rfl]
    exact ⟨m, rfl, ht, hok⟩
theorem rd_tags (hE : (E.jk.isNone && E.fl && !anyTag fs && zaR Tryd.prog T idx (k0 + lsz true fs) 1 && sizeB Tryd.prog tyV 1) = true) (hok : ∀ t : za0, tagOK t) (hen : zaK Tryd.prog 37) (hI : decide (fs.length ≤ I) = true) (s1 : rsl E m [t1, t2, t3, t4, t5] [9, sS, E.rr] = true) :
    RdC E m sS k0 fs I pre (tlP E fs) (.seq (.region r0 #[⟨some t1, .move (.tmp 9), y0, q0, e0, none⟩] false) (.cond (.tmp t1)
      (.region r1 #[⟨some t2, .move (.tmp sS), y1, q1, e1, none⟩, ⟨some t3, .call { callee := .value (.func 37), args := #[.tmp E.rr], argTypes := us }, y2, q2, e2, none⟩, ⟨some t4, .nilCheck (.tmp t2), y3, q3, e3, none⟩, ⟨some t5, .fieldAddr T (.tmp t4) idx, y4, q4, e4, none⟩, ⟨none, .store tyV (.tmp t5) (.tmp t3), y5, q5, e5, none⟩] false) .skip)) := by
  simp only [Bool.and_eq_true, Bool.not_eq_true'] at hE
  obtain ⟨⟨⟨⟨hj, f0⟩, f1⟩, f2⟩, f3⟩ := hE
  replace hj := Option.isNone_iff_eq_none.1 hj
  obtain ⟨hm, hw, hr, hnd⟩ := zau s1
  have hnr := nodup_rev hnd
  simp only [List.reverse_cons, List.reverse_nil, List.nil_append, List.cons_append, List.mem_cons, List.not_mem_nil, or_false, List.nodup_cons, not_or, List.nodup_nil, and_true, not_false_eq_true] at hnr
  simp only [List.mem_cons, List.not_mem_nil, or_false, forall_eq_or_imp, forall_eq, List.nodup_cons, not_or, List.nodup_nil, and_true, not_false_eq_true] at hw hnd hr
  intro a w O R B p st s hB hP _
  have hN := hB.ok.1
  have ev : ∀ {d t : Nat} {a : Act} {v : Value}, d < a.tmps.size → get (a.put (some d) v) t = if d = t then v else get a t := fun h => get_put h
  have nA : ∀ t, m ≤ t → ¬ t = sS ∧ ¬ t = E.rr := fun t ht => by have := hr.2.1.1; have := hr.2.2.1; omega
  have eM : tlP E fs = fun s bs => if E.flex then (rTags bs).map fun x => ({ s with tags := x.1 }, x.2) else some (s, bs) := by
    funext s bs
    unfold tlP semTags semIf
    rw [f1]
    simp only [Bool.false_eq_true, if_false, if_true]
  rw [eM]
  refine wp_seq_k fun K hK => ?_
  refine zai ?_
  refine zal ?_
  rw [zac, hB.ok.2.2.2.2 f0]
  refine zah (hK _ _ ?_)
  clear hK K
  have hev : (a.put (some t1) (.bool E.flex)).eval (.tmp t1) = .bool E.flex := by rw [zac, zaa (by rw [hN]; exact hw.1.2.1)]
  have hk1 : zam (RS m) a (a.put (some t1) (.bool E.flex)) := (zam.refl _ _).put hw.1.1 _
  cases hx : E.flex with
  | false =>
    rw [hx] at hev hk1
    refine wp_cond_false hev ?_
    refine rd_go ⟨hm, hr.2.1.1, hr.2.1.2⟩ (pre := fun _ => True) ?_ hB hP trivial hk1
    simp only [Bool.false_eq_true, if_false]
    exact rd_skip
  | true =>
    rw [hx] at hev hk1
    refine wp_cond_true hev ?_
    refine zai ?_
    refine zal ?_
    rw [zac, zab (nA t1 hw.1.2.2).1, hP.pt]
    refine wl_rd hen internalReadTags_c (by simp only [List.map_toArray, List.map_cons, List.map_nil, zac, zab (nA t2 hw.2.1.2.2).2, zab (nA t1 hw.1.2.2).2, hB.rd]) hB.rs (fun h => h hB.oR) hB.new ?_
    intro v w1 hv
    obtain ⟨tg, ⟨mm, rfl, htg⟩, k4⟩ := hv.val
    obtain ⟨cs, Tb, g1, g2, g3⟩ := id (hP.at_.at hj)
    rw [f0] at g2 g3
    have hsz : ssz true fs = lsz true fs + 1 := rfl
    have hb1 : Blk w1 B cs Tb := g1.chg hv.chg fun e => hP.ne e.symm
    refine zaI (p := ⟨B, p, none⟩) (by simp only [zac, ev, zae, hN, hw, hnd, hnr, if_true, if_false]) ?_
    refine zaE (b := B) (o := p) f2 (by simp only [zac, ev, zae, hN, hw, hnd, hnr, if_true, if_false]) ?_
    refine zaX (b := B) (o := p + (k0 + lsz true fs)) (n := 1) (v := .agg #[.map mm]) f3 (by simp only [zac, ev, zae, hN, hw, hnd, hnr, if_true, if_false]) (by simp only [zac, ev, zae, hN, hw, hnd, hnr, if_true, if_false]) hb1 rfl (by intro y hy; simp only [Value.cells, List.mem_singleton] at hy; subst hy; rfl) (by omega) fun w2 hb2 hc2 => ?_
    change Blk w2 B (zas cs (p + (k0 + lsz true fs)) [.map mm]) Tb at hb2
    rw [← Nat.add_assoc] at hb2
    refine zah ?_
    have hX : ∀ k, ¬ O k → k < w1.heap.size → ¬ k = B := fun k hk _ e => hk (e ▸ hP.oB)
    have st2 : Stay w1 w2 (fun g => ¬ O g) (fun g => ¬ O g) := Stay.of hc2 hX
    have hall : Chg (fun k => k = R ∨ k = B) w w2 := (hv.chg.mono fun _ _ h => Or.inl h).trans (hc2.mono fun _ _ h => Or.inr h) fun _ _ h => h
    have hls : p + k0 + lsz true fs + ([.map mm] : List Value).length ≤ cs.length := by simp only [List.length_singleton]; omega
    have hat := hP.at_.at hj
    rw [f0] at hat
    refine ⟨(((((zam.refl _ _).put hw.1.1 _).put hw.2.1.1 _).put hw.2.2.1.1 _).put hw.2.2.2.1.1 _).put hw.2.2.2.2.1 _, hall, ?_, (st.bind rTags).map (·.2), { s with tags := tg }, hv.rd.stay st2 (hc2.block R hv.rd.lt hP.ne), ?_, ?_, rTags_less.st st, fun _ _ => rfl⟩
    · intro cs0 T0 hb0
      obtain ⟨rfl, rfl⟩ := hb0.inj g1
      rw [f0]
      refine ⟨_, hb2, zaG hls, fun j hj => ?_⟩
      rcases hj with hj | hj
      · exact zaO hls (by omega)
      · exact zaV hls (by simp only [List.length_singleton]; omega)
    · refine AtE.of ?_ hj
      rw [f0]
      exact at_tags hat (htg.stay st2) (hok tg) g1 hb2 hall fun k hk _ e => hk (by rcases e with rfl | rfl; exact hB.oR; exact hP.oB)
    · unfold Stp
      have e : (st.bind fun bs => if True then (rTags bs).map fun x => (({ s with tags := x.1 } : S), x.2) else some (s, bs)) = (st.bind rTags).map fun x => ({ s with tags := x.1 }, x.2) := by
        cases st <;> simp
      simp only [if_true] at e ⊢
      rw [e]
      cases hb : st.bind rTags with
      | none => rfl
      | some y => exact ⟨rfl, by rw [k4 y hb]⟩
def RtQ (E : REnv) (m k0 : Nat) (fs : List Fld) (sem : Sem) (w : World) (O : Nat → Prop) (R B p : Nat) (st : Option Bs) (s : S) : Exit → Act → World → Prop
  | .ret, a', w' => a'.defers = [] ∧ ((st.bind (sem s) = none ∧ (∃ t x, get a' 6 = .iface t x) ∧ Chg O w w') ∨
      ∃ s1 r, st.bind (sem s) = some (s1, r) ∧ get a' 6 = .nilIface ∧ Chg (fun k => k = R ∨ k = B) w w' ∧ At w' (fun g => ¬ O g) E.fl fs s1 B (p + k0) ∧ Rest w w' B (p + k0) (ssz E.fl fs))
  | _, _, _ => False
def RtC (E : REnv) (m sS k0 : Nat) (fs : List Fld) (pre : S → Prop) (sem : Sem) (c : Code) : Prop :=
  ∀ (a : Act) (w : World) (O : Nat → Prop) (R B p : Nat) (st : Option Bs) (s : S), RB E a w O R st → RP E sS k0 fs a w O R B p s → pre s → c.wp Tryd.prog (RtQ E m k0 fs sem w O R B p st s) a w
theorem rt_seq {pre1 pre2 : S → Prop} {sem sem1 sem2 : Sem} {I1 : Nat} (hm : Low E m ∧ sS < m ∧ sS ≠ 6) (h1 : RdC E m sS k0 fs I1 pre1 sem1 c1) (h2 : RtC E m sS k0 fs pre2 sem2 c2)
    (hp1 : ∀ s, pre s → pre1 s) (hp2 : ∀ s s' : S, pre s → s.ds.length = fs.length → (∀ j, I1 ≤ j → s'.ds[j]? = s.ds[j]?) → pre2 s') (he : ∀ s bs, pre s → s.ds.length = fs.length → sem s bs = (sem1 s bs).bind fun x => sem2 x.1 x.2) : RtC E m sS k0 fs pre sem (.seq c1 c2) := by
  intro a w O R B p st s hB hP hpre
  have hlen := hP.at_.len
  have hsem : st.bind (sem s) = (st.bind (sem1 s)).bind fun x => sem2 x.1 x.2 := by
    cases st with
    | none => rfl
    | some bs => exact he s bs hpre hlen
  refine wp_seq (wp_mono (h1 a w O R B p st s hB hP (hp1 s hpre)) ?_)
  intro e a1 w1 hq
  cases e <;> try exact hq.elim
  · obtain ⟨hk, hc, hr, st1, s1, hs1, ha1, hstp, hl, hI⟩ := hq
    have hcO : Chg O w w1 := hc.mono fun k _ hk => by rcases hk with rfl | rfl; exact hB.oR; exact hP.oB
    have hB1 := hB.next hm.1 hk hc (fun k hk => by rcases hk with rfl | rfl; exact hB.oR; exact hP.oB) hs1 hl
    have hP1 : RP E sS k0 fs a1 w1 O R B p s1 := ⟨(hk.slot _ ⟨hm.2.1, hm.2.2⟩).trans hP.pt, ha1, hP.oB, hP.ne⟩
    refine wp_mono (h2 a1 w1 O R B p st1 s1 hB1 hP1 (hp2 s s1 hpre hlen hI)) ?_
    intro e a2 w2 hq
    cases e <;> try exact hq.elim
    obtain ⟨q1, q2⟩ := hq
    unfold Stp at hstp
    have hst : st1.bind (sem2 s1) = st.bind (sem s) := by
      rw [hsem]
      cases hh : st.bind (sem1 s) with
      | none => rw [hh] at hstp; rw [hstp]; rfl
      | some y => rw [hh] at hstp; rw [hstp.1, hstp.2]; rfl
    rw [hst] at q2
    refine ⟨q1, ?_⟩
    rcases q2 with ⟨x1, x2, x3⟩ | ⟨s2, r, x1, x2, x3, x4, x5⟩
    · exact .inl ⟨x1, x2, hcO.trans x3 fun _ _ h => h⟩
    · exact .inr ⟨s2, r, x1, x2, hc.trans x3 fun _ _ h => h, x4, hr.trans x5⟩
  · obtain ⟨q1, q2, q3, q4⟩ := hq
    refine ⟨q1, .inl ⟨?_, q2, q4⟩⟩
    rw [hsem, q3]; rfl
theorem rt_next {tl : Sem} (hf : fs[i]? = some f) (hsl : rsl E m [] [sS] = true) (h1 : RdC E m sS k0 fs (i + 1) (Fresh fs i) (semFld E f i) c1) (h2 : RtC E m sS k0 fs (Fresh fs (i + 1)) (semL E fs (i + 1) tl) c2) :
    RtC E m sS k0 fs (Fresh fs i) (semL E fs i tl) (.seq c1 c2) := by
  obtain ⟨hm, hw, hr, hnd⟩ := zau hsl
  simp only [List.mem_cons, List.not_mem_nil, or_false, forall_eq] at hr
  exact rt_seq ⟨hm, hr.1, hr.2⟩ h1 h2 (fun _ h => h) (fun s s' h _ hs => h.on (by omega) hs) fun s bs h hl => semL_step hf h hl
theorem rt_tagged {tl : Sem} (hf : fs[i]? = some f) (ht : decide (0 ≤ f.tag) = true) (h : RtC E m sS k0 fs (Fresh fs (i + 1)) (semL E fs (i + 1) tl) c) : RtC E m sS k0 fs (Fresh fs i) (semL E fs i tl) c := by
  intro a w O R B p st s hB hP hfr
  have hlen := hP.at_.len
  have e : st.bind (semL E fs i tl s) = st.bind (semL E fs (i + 1) tl s) := by
    cases st with
    | none => rfl
    | some bs =>
      simp only [Option.bind_some]
      rw [semL_step hf hfr hlen]
      unfold semFld
      have := of_decide_eq_true ht
      rw [if_neg (by simp; omega)]
      rfl
  refine wp_mono (h a w O R B p st s hB hP (hfr.up (by omega))) ?_
  intro e' a1 w1 hq
  cases e' <;> try exact hq.elim
  unfold RtQ at hq ⊢
  rw [e]; exact hq
theorem rt_end {tl : Sem} (hl : decide (fs.length ≤ i) = true) (h : RtC E m sS k0 fs (fun _ => True) tl c) : RtC E m sS k0 fs (Fresh fs i) (semL E fs i tl) c := by
  intro a w O R B p st s hB hP hfr
  have hlen := hP.at_.len
  have e : st.bind (semL E fs i tl s) = st.bind (tl s) := by
    cases st with
    | none => rfl
    | some bs =>
      simp only [Option.bind_some]
      exact semL_end (of_decide_eq_true hl) hlen
  refine wp_mono (h a w O R B p st s hB hP trivial) ?_
  intro e' a1 w1 hq
  cases e' <;> try exact hq.elim
  unfold RtQ at hq ⊢
  rw [e]; exact hq
theorem rt_tl {tl : Sem} (hsl : rsl E m [] [sS] = true) (h1 : RdC E m sS k0 fs I (fun _ => True) tl c1) (h2 : RtC E m sS k0 fs (fun _ => True) (fun s bs => some (s, bs)) c2) : RtC E m sS k0 fs (fun _ => True) tl (.seq c1 c2) := by
  obtain ⟨hm, hw, hr, hnd⟩ := zau hsl
  simp only [List.mem_cons, List.not_mem_nil, or_false, forall_eq] at hr
  exact rt_seq ⟨hm, hr.1, hr.2⟩ h1 h2 (fun _ _ => trivial) (fun _ _ _ _ _ => trivial) fun s bs _ _ => by cases tl s bs <;> rfl
theorem rt_fin (hC : zaK Tryd.prog 29) (h6 : (decide (6 < E.N) && E.jk.isNone) = true) (hsl : rsl E m [t1] [E.rr] = true) :
    RtC E m sS k0 fs (fun _ => True) (fun s bs => some (s, bs)) (.seq (.region r0 #[⟨some t1, .call { callee := .value (.func 29), args := #[.tmp E.rr], argTypes := us }, y0, q0, e0, none⟩, ⟨some 6, .assign (.tmp t1), y1, q1, e1, none⟩] false) .ret) := by
  rw [Bool.and_eq_true] at h6
  obtain ⟨h6, hj⟩ := h6
  replace hj := Option.isNone_iff_eq_none.1 hj
  obtain ⟨hm, hw, hr, hnd⟩ := zau hsl
  simp only [List.mem_cons, List.not_mem_nil, or_false, forall_eq] at hw hr
  intro a w O R B p st s hB hP _
  have hN := hB.ok.1
  refine wp_seq_k fun K hK => ?_
  refine zai ?_
  refine zaH hC (by simp only [List.map_toArray, List.map_cons, List.map_nil, zac, hB.rd]; exact Complete_c hB.rs hB.err) ?_
  rintro v _ ⟨rfl, h1, h2⟩
  refine zak ?_
  rw [zac, zaa (by rw [hN]; exact hw.2.1)]
  refine zah (hK _ _ ?_)
  have g6 : ∀ v, get ((a.put (some t1) v).put (some 6) v) 6 = v := fun v => zaa (by rw [zae, hN]; exact of_decide_eq_true h6)
  refine wp_ret ⟨by simp only [zaj]; exact hB.ok.2.1, ?_⟩
  cases st with
  | none =>
    obtain ⟨t, x, rfl⟩ := h1 rfl
    exact .inl ⟨rfl, ⟨t, x, g6 _⟩, Chg.refl _ _⟩
  | some bs =>
    rw [h2 (fun h => by cases h)]
    exact .inr ⟨s, bs, rfl, g6 _, Chg.refl _ _, hP.at_.at hj, Rest.of rfl⟩
end
end Go.Proofs.YtojpodeljpfgaabDoor
namespace Go.Proofs.YtojpodeljpfgaabDoor
set_option linter.all false
open Go.RowKit
set_option maxRecDepth 10000
set_option maxHeartbeats 2000000
def DefM (fn : FuncId) (dc : List Value) : Prop := ∀ (w : World) (B : Nat) (v : Value) (T : TypeId), Blk w B (v :: dc) T → zaD Tryd.prog fn #[.pointer (some ⟨B, 0, none⟩)] w fun _ w' => Blk w' B (v :: dc) T ∧ Chg (fun k => k = B) w w'
section
variable {y0 y1 y2 y3 y4 y5 y6 y7 y8 y9 y10 y11 y12 y13 y14 y15 y16 y17 y18 y19 y20 y21 y22 y23 y24 y25 y26 y27 y28 y29 y30 y31 y32 y33 y34 y35 y36 y37 y38 y39 : TypeId} {q0 q1 q2 q3 q4 q5 q6 q7 q8 q9 q10 q11 q12 q13 q14 q15 q16 q17 q18 q19 q20 q21 q22 q23 q24 q25 q26 q27 q28 q29 q30 q31 q32 q33 q34 q35 q36 q37 q38 q39 : String} {e0 e1 e2 e3 e4 e5 e6 e7 e8 e9 e10 e11 e12 e13 e14 e15 e16 e17 e18 e19 e20 e21 e22 e23 e24 e25 e26 e27 e28 e29 e30 e31 e32 e33 e34 e35 e36 e37 e38 e39 : Array Edge} {r0 r1 r2 r3 r4 r5 : Nat}
variable {r6 r7 r8 r9 r10 r11 r12 r13 : Nat}
variable {E : REnv} {m sS B R t1 t2 t3 t4 T : Nat} {N : Nat} {us us2 : Array TypeId} {fs : List Fld} {c : Code} {dc : List Value} {ver : Int} {a : Act} {w w0 : World} {oa : Option Addr} {bs : Bs} {cap : Nat} {fnD : FuncId} {Q : Exit → Act → World → Prop}
theorem read_start (hN : a.tmps.size = N) (hD : a.defers = []) (h0 : get a 0 = .pointer (some ⟨B, 0, none⟩)) (h1 : get a 1 = .slice oa bs.length cap) (hF : (decide ((0 :: 1 :: 2 :: 6 :: 7 :: 8 :: 9 :: 10 :: [t1, t2, t3, t4]).Nodup) && [0, 1, 2, 6, 7, 8, t1, t2, t3, t4].all (fun t => decide (t < N))) = true)
    (hen : zaK Tryd.prog fnD) (hdef : DefM fnD dc) {v : Value} (hb : Blk w B (v :: dc) T) (hsrc : zaq w (fun g => g ≠ B) oa bs) (hcap : bs.length ≤ cap) (hlim : bs.length ≤ RLIM) (hBE : B ≠ gE) (herr : ErrW w)
    (hK : ∀ a' w' R, zam (fun t => t = 0 ∨ t = 1 ∨ t = 2) a a' → get a' 7 = .pointer (some ⟨R, 0, none⟩) → RdS w' (fun g => ¬ (g = B ∨ g = R)) R (some bs) → Blk w' B (v :: dc) T → Chg (fun k => k = B) w w' → w.heap.size ≤ R → R < w'.heap.size → R ≠ B → ErrW w' → c.wp Tryd.prog Q a' w') :
    (Code.seq (.region r0 #[⟨some 6, .assign (.const .nilIface), y0, q0, e0, none⟩] false) (.seq (.region r1 #[⟨some t1, .move (.tmp 0), y1, q1, e1, none⟩, ⟨some t2, .call { callee := .value (.func fnD), args := #[.tmp t1], argTypes := us }, y2, q2, e2, none⟩] false)
      (.seq (.region r2 #[⟨some t3, .move (.tmp 1), y3, q3, e3, none⟩, ⟨some t4, .build tR #[(0, .tmp t3)], y4, q4, e4, none⟩, ⟨some 7, .alloc tR, y5, q5, e5, none⟩, ⟨none, .store tR (.tmp 7) (.tmp t4), y6, q6, e6, none⟩] false) c))).wp Tryd.prog Q a w := by
  simp only [Bool.and_eq_true, decide_eq_true_eq, List.all_eq_true] at hF
  obtain ⟨hnd, hlt⟩ := hF
  simp only [List.nodup_cons, List.mem_cons, List.not_mem_nil, or_false, not_or, List.nodup_nil, and_true, not_false_eq_true, forall_eq_or_imp, forall_eq] at hnd hlt
  have hB := hb.lt
  refine wp_seq_k fun K hK => ?_
  refine zai ?_
  refine zak ?_
  refine zah (hK _ _ ?_)
  clear hK K
  refine wp_seq_k fun K hK => ?_
  refine zai ?_
  refine zal ?_
  simp only [zac, zaf, zaa, zab, zad, ne_eq, zae, hN, hnd, hlt, not_false_eq_true, h0]
  refine zaH hen (by simp only [List.map_toArray, List.map_cons, List.map_nil, zac, zaf, zaa, zab, zad, ne_eq, zae, hN, hnd, hlt, not_false_eq_true, h0]; exact hdef w B v T hb) ?_
  rintro u w1 ⟨hb1, hc1⟩
  refine zah (hK _ _ ?_)
  clear hK K
  refine wp_seq_k fun K hK => ?_
  refine zai ?_
  refine zal ?_
  simp only [zac, zaf, zaa, zab, zad, ne_eq, zae, hN, hnd, hlt, not_false_eq_true, h1]
  refine wl_build (l := [.slice oa bs.length cap, .bool false]) (by simp only [List.map_toArray, List.map_cons, List.map_nil, zac, zaf, zaa, zab, zad, ne_eq, zae, hN, hnd, hlt, not_false_eq_true]; kernel_rfl) ?_
  refine wl_allocA (z := aggOf [.slice none 0 0, .bool false]) (fun w => Tryd.zeroValue66 w) fun w2 hc2 hb2 hs2 => ?_
  refine wl_storeAll (b := w1.heap.size) (n := 2) (l' := [.slice oa bs.length cap, .bool false]) (by kernel_rfl) (by simp only [zac, zaf, zaa, zab, zad, ne_eq, zae, hN, hnd, hlt, not_false_eq_true]) (by simp only [zac, zaf, zaa, zab, zad, ne_eq, zae, hN, hnd, hlt, not_false_eq_true]) hb2 rfl (by intro y hy; simp only [List.mem_cons, List.not_mem_nil, or_false] at hy; rcases hy with rfl | rfl <;> rfl) rfl fun w3 hb3 hc3 => ?_
  refine zah (hK _ _ ?_)
  clear hK K
  have g7 : get ((((((a.put (some 6) .nilIface).put (some t1) (.pointer (some ⟨B, 0, none⟩))).put (some t2) u).put (some t3) (.slice oa bs.length cap)).put (some t4) (aggOf [.slice oa bs.length cap, .bool false])).put (some 7) (.pointer (some ⟨w1.heap.size, 0, none⟩))) 7 = .pointer (some ⟨w1.heap.size, 0, none⟩) := zaa (by simp only [zae, hN, hlt])
  have hz : ∀ t, t = t1 ∨ t = t2 ∨ t = t3 ∨ t = t4 ∨ t = 6 ∨ t = 7 → ¬ (t = 0 ∨ t = 1 ∨ t = 2) := by
    intro t ht h
    rcases ht with ht | ht | ht | ht | ht | ht <;> rcases h with h | h | h <;> (rw [ht] at h; first | (exact absurd h (by decide)) | (rw [h] at hnd; simp at hnd))
  clear hnd
  have hs1 := hc1.size
  have hc13 : Chg (fun _ => False) w1 w3 := hc2.trans hc3 fun n hn h => by omega
  have hcall : Chg (fun k => k = B) w w3 := hc1.trans hc13 fun _ _ h => h.elim
  have hpn : ∀ x : Act, x.put none undef = x := fun _ => rfl
  rw [hpn]
  have hk : zam (fun t => t = 0 ∨ t = 1 ∨ t = 2) a ((((((a.put (some 6) .nilIface).put (some t1) (.pointer (some ⟨B, 0, none⟩))).put (some t2) u).put (some t3) (.slice oa bs.length cap)).put (some t4) (aggOf [.slice oa bs.length cap, .bool false])).put (some 7) (.pointer (some ⟨w1.heap.size, 0, none⟩))) :=
    ((((((zam.refl _ _).put (hz 6 (by simp)) _).put (hz t1 (by simp)) _).put (hz t2 (by simp)) _).put (hz t3 (by simp)) _).put (hz t4 (by simp)) _).put (hz 7 (by simp)) _
  refine hK _ w3 w1.heap.size hk g7 ?_ (hb1.chg hc13 fun h => h) hcall hs1 (by have := hb3.lt; omega) (by have := hb1.lt; omega) (herr.chg hcall fun h => hBE h.symm)
  exact ⟨oa, cap, hb3, hcap, hsrc.stay ⟨fun k hk hg => ⟨hcall.block k hk hg, fun h => by rcases h with h | h; exact hg h; omega⟩⟩⟩
theorem gE_lt {w : World} (h : ErrW w) : gE < w.heap.size := by
  obtain ⟨_, _, _, h2⟩ := h
  cases hh : w.heap[gE]? with
  | none => simp [ldOK, World.cell?, hh] at h2
  | some o => exact (Array.getElem?_eq_some_iff.1 hh).1
end
end Go.Proofs.YtojpodeljpfgaabDoor
namespace Go.Proofs.YtojpodeljpfgaabDoor
set_option linter.all false
open Go.RowKit
set_option maxRecDepth 10000
set_option maxHeartbeats 2000000
theorem less_take (k : Nat) : Less (take? k) := fun bs x r h => by
  unfold take? at h
  split at h
  · simp only [Option.some.injEq, Prod.mk.injEq] at h; rw [← h.2, List.length_drop]; omega
  · cases h
theorem less_map {α β : Type} {s : Bs → Option (α × Bs)} (g : α → β) (h : Less s) : Less (fun bs => (s bs).map fun x => (g x.1, x.2)) := fun bs x r hs => by
  dsimp only at hs
  cases hh : s bs with
  | none => rw [hh] at hs; cases hs
  | some y =>
    rw [hh] at hs
    simp only [Option.map_some, Option.some.injEq, Prod.mk.injEq] at hs
    have := h bs y.1 y.2 hh
    rw [hs.2] at this; exact this
theorem less_bind {α β : Type} {s : Bs → Option (α × Bs)} {g : α × Bs → Option (β × Bs)} (h : Less s) (hg : ∀ y x r, g y = some (x, r) → r.length ≤ y.2.length) : Less (fun bs => (s bs).bind g) := fun bs x r hs => by
  dsimp only at hs
  cases hh : s bs with
  | none => rw [hh] at hs; cases hs
  | some y =>
    rw [hh, Option.bind_some] at hs
    have h1 := h bs y.1 y.2 hh
    have h2 := hg y x r hs
    omega
theorem less_rS (k : Nat) : Less (rS k) := less_map (fun x => sgn k (unbe x)) (less_take k)
theorem less_rU (k : Nat) : Less (rU k) := less_map unbe (less_take k)
theorem less_span (l : Int) : Less (rSpan l) := fun bs x r h => by
  unfold rSpan at h
  split at h
  · exact less_take _ bs x r h
  · cases h
theorem less_uvar : Less zav := by
  intro bs x r h
  unfold zav at h
  repeat' (split at h)
  all_goals first | (cases h; done) | skip
  all_goals (simp only [Option.some.injEq, Prod.mk.injEq] at h; obtain ⟨_, rfl⟩ := h; simp only [List.length_cons]; omega)
theorem less_str (flex : Bool) : Less (rStr flex) := by
  cases flex with
  | true => exact less_bind (s := zav) (g := fun x => rSpan ((x.1 : Int) - 1) x.2) less_uvar fun y x r h => less_span _ y.2 x r h
  | false => exact less_bind (s := rS 2) (g := fun x => rSpan x.1 x.2) (less_rS 2) fun y x r h => less_span _ y.2 x r h
theorem less_len (flex : Bool) : Less (rLen flex) := by
  have key : ∀ (y : Int × Bs) (x : Int) (r : Bs), (if (y.2.length : Int) < y.1 then none else some y) = some (x, r) → r.length ≤ y.2.length := by
    intro y x r h
    split at h
    · cases h
    · simp only [Option.some.injEq] at h; rw [h]; exact Nat.le_refl _
  have h1 : Less fun bs => (zav bs).map fun x => (zaC (zaC x.1 - 1), x.2) := less_map (fun n : Nat => zaC (zaC n - 1)) less_uvar
  have h2 := less_rS 4
  intro bs x r h
  unfold rLen at h
  cases flex with
  | true =>
    rw [if_pos rfl] at h
    generalize hs : (zav bs).map (fun x => (zaC (zaC x.1 - 1), x.2)) = o at h
    cases o with
    | none => cases h
    | some y =>
      rw [Option.bind_some] at h
      have e1 := h1 bs y.1 y.2 hs
      have e2 := key y x r h
      omega
  | false =>
    rw [if_neg (by decide)] at h
    cases hs : rS 4 bs with
    | none => rw [hs] at h; cases h
    | some y =>
      rw [hs, Option.bind_some] at h
      have e1 := h2 bs y.1 y.2 hs
      have e2 := key y x r h
      omega
theorem splice_same {cs vs : List Value} {off : Nat} (h : (cs.drop off).take vs.length = vs) (hl : off + vs.length ≤ cs.length) : zas cs off vs = cs := by
  unfold zas
  rw [← h, List.length_take, List.length_drop, Nat.min_eq_left (by omega), h]
  conv => rhs; rw [← List.take_append_drop off cs, ← List.take_append_drop vs.length (cs.drop off), h, List.drop_drop]
  rw [List.append_assoc]
theorem co_en : zaK Tryd.prog 29 := (fun args w => Tryd.call29 args w)
theorem ok_en : zaK Tryd.prog 28 := (fun args w => Tryd.call28 args w)
theorem tagOK_all : ∀ t : za0, tagOK t := fun _ => trivial
theorem tg_en : zaK Tryd.prog 37 := (fun args w => Tryd.call37 args w)
section
variable {y0 y1 y2 y3 y4 y5 y6 y7 y8 y9 y10 y11 y12 y13 y14 y15 y16 y17 y18 y19 y20 y21 y22 y23 y24 y25 y26 y27 y28 y29 y30 y31 y32 y33 y34 y35 y36 y37 y38 y39 : TypeId} {q0 q1 q2 q3 q4 q5 q6 q7 q8 q9 q10 q11 q12 q13 q14 q15 q16 q17 q18 q19 q20 q21 q22 q23 q24 q25 q26 q27 q28 q29 q30 q31 q32 q33 q34 q35 q36 q37 q38 q39 : String} {e0 e1 e2 e3 e4 e5 e6 e7 e8 e9 e10 e11 e12 e13 e14 e15 e16 e17 e18 e19 e20 e21 e22 e23 e24 e25 e26 e27 e28 e29 e30 e31 e32 e33 e34 e35 e36 e37 e38 e39 : Array Edge} {r0 r1 r2 r3 r4 r5 : Nat}
variable {r6 r7 r8 r9 r10 r11 r12 r13 : Nat}
variable {E : REnv} {m mB sS k0 i I x y ys aS iS lS vS t t1 t2 t3 t4 t5 t6 t7 t8 t9 t10 t11 t12 t13 t14 t15 t16 t17 w1' w2' w3' w4' w5' u1 u2 u3 u4 u5 v1 v2 v3 v4 b1 b2 ug uo uc ui : Nat} {fs sub : List Fld} {pre : S → Prop} {c c1 c2 body cl cn cr : Code} {us us2 us3 : Array TypeId} {fn : FuncId} {T ty ti idx off ua uoT tyV tyW tyE sz : Nat} {a1 a2 a3 a4 a5 : Int} {of : K} {z : Value} {f : Fld} {sem : Bs → Option (D × Bs)} {tl semS : Sem}
theorem RvC.to {sem' : Bs → Option (D × Bs)} (h : RvC E m x f sem c) (e : sem' = sem) : RvC E m x f sem' c := by rw [e]; exact h
theorem rv_int {k : K} {kd : IntKind} {semA : Bs → Option (Int × Bs)} (hen : zaK Tryd.prog fn) (hc : RdF fn [] semA (outI kd)) (hl : Less semA) (he : ∀ bs, decF E.flex E.ver (.mk k a1 a2 a3 a4 a5 of sub) bs = (semA bs).map fun y => (.int y.1, y.2))
    (hr : ∀ w G n, RepF w G E.fl (.mk k a1 a2 a3 a4 a5 of sub) (.int n) [.int kd n]) (hsl : rsl E m [t1, x] [E.rr] = true) :
    RvC E m x (.mk k a1 a2 a3 a4 a5 of sub) (decF E.flex E.ver (.mk k a1 a2 a3 a4 a5 of sub)) (.region r0 #[⟨some t1, .call { callee := .value (.func fn), args := #[.tmp E.rr], argTypes := us }, y0, q0, e0, none⟩, ⟨some x, .assign (.tmp t1), y1, q1, e1, none⟩] false) :=
  (rv_call (fun n => .int n) hen hc (fun w w' O R y v hn hcg ho => by cases (ho : v = .int kd y); exact ⟨rfl, rfl, hr _ _ _⟩) hl hsl).to (funext he)
theorem rv_i16 (hsl : rsl E m [t1, x] [E.rr] = true) : RvC E m x (.mk .i16 a1 a2 a3 a4 a5 of sub) (decF E.flex E.ver (.mk .i16 a1 a2 a3 a4 a5 of sub)) (.region r0 #[⟨some t1, .call { callee := .value (.func 25), args := #[.tmp E.rr], argTypes := us }, y2, q2, e2, none⟩, ⟨some x, .assign (.tmp t1), y3, q3, e3, none⟩] false) :=
  rv_int (fun args w => Tryd.call25 args w) Int16_c (less_rS 2) (fun _ => rfl) (fun _ _ _ => by unfold RepF; rfl) hsl
theorem rv_i32 (hsl : rsl E m [t1, x] [E.rr] = true) : RvC E m x (.mk .i32 a1 a2 a3 a4 a5 of sub) (decF E.flex E.ver (.mk .i32 a1 a2 a3 a4 a5 of sub)) (.region r0 #[⟨some t1, .call { callee := .value (.func 36), args := #[.tmp E.rr], argTypes := us }, y4, q4, e4, none⟩, ⟨some x, .assign (.tmp t1), y5, q5, e5, none⟩] false) :=
  rv_int (fun args w => Tryd.call36 args w) Int32_c (less_rS 4) (fun _ => rfl) (fun _ _ _ => by unfold RepF; rfl) hsl
theorem rv_u16 (hsl : rsl E m [t1, x] [E.rr] = true) : RvC E m x (.mk .u16 a1 a2 a3 a4 a5 of sub) (decF E.flex E.ver (.mk .u16 a1 a2 a3 a4 a5 of sub)) (.region r0 #[⟨some t1, .call { callee := .value (.func 42), args := #[.tmp E.rr], argTypes := us }, y6, q6, e6, none⟩, ⟨some x, .assign (.tmp t1), y7, q7, e7, none⟩] false) :=
  (rv_call (fun n : Nat => .int n) (fun args w => Tryd.call42 args w) Uint16_c (fun w w' O R y v hn hcg ho => by cases (ho : v = .int .u16 y); exact ⟨rfl, rfl, by unfold RepF; rfl⟩) (less_rU 2) hsl).to rfl
theorem rv_str {k : K} {s : Bool} {g : Bs → D} (hen : zaK Tryd.prog fn) (hc : RdF fn [] (rStr s) outS) (he : ∀ bs, decF E.flex E.ver f bs = (rStr s bs).map fun y => (g y.1, y.2))
    (hr : ∀ w G l, RepF w G E.fl f (g l) [.string ⟨l.toArray⟩]) (hsl : rsl E m [t1, x] [E.rr] = true) :
    RvC E m x f (decF E.flex E.ver f) (.region r0 #[⟨some t1, .call { callee := .value (.func fn), args := #[.tmp E.rr], argTypes := us }, y8, q8, e8, none⟩, ⟨some x, .assign (.tmp t1), y9, q9, e9, none⟩] false) :=
  (rv_call g hen hc (fun w w' O R y v hn hcg ho => by cases (ho : v = .string ⟨y.toArray⟩); exact ⟨rfl, rfl, hr _ _ _⟩) (less_str s) hsl).to (funext he)
theorem decF_text (h : a3 < 0) (bs : Bs) : decF E.flex E.ver (.mk .text a1 a2 a3 a4 a5 of sub) bs = (rStr E.flex bs).map fun y => (.str y.1, y.2) := by
  unfold decF; dsimp only; rw [if_pos h]; rfl
theorem repF_text (h : a3 < 0) (w : World) (G : Nat → Prop) (l : Bs) : RepF w G E.fl (.mk .text a1 a2 a3 a4 a5 of sub) (.str l) [.string ⟨l.toArray⟩] := by
  unfold RepF; dsimp only; rw [if_pos h]; rfl
theorem rv_string (h : decide (a3 < 0) = true) (hx : E.flex = false) (hsl : rsl E m [t1, x] [E.rr] = true) : RvC E m x (.mk .text a1 a2 a3 a4 a5 of sub) (decF E.flex E.ver (.mk .text a1 a2 a3 a4 a5 of sub)) (.region r0 #[⟨some t1, .call { callee := .value (.func 34), args := #[.tmp E.rr], argTypes := us }, y0, q0, e0, none⟩, ⟨some x, .assign (.tmp t1), y1, q1, e1, none⟩] false) :=
  rv_str (k := .text) (s := false) (g := .str) (fun args w => Tryd.call34 args w) String_c (fun bs => by rw [decF_text (of_decide_eq_true h), hx]) (repF_text (of_decide_eq_true h)) hsl
theorem rv_cstring (h : decide (a3 < 0) = true) (hx : E.flex = true) (hsl : rsl E m [t1, x] [E.rr] = true) : RvC E m x (.mk .text a1 a2 a3 a4 a5 of sub) (decF E.flex E.ver (.mk .text a1 a2 a3 a4 a5 of sub)) (.region r0 #[⟨some t1, .call { callee := .value (.func 33), args := #[.tmp E.rr], argTypes := us }, y2, q2, e2, none⟩, ⟨some x, .assign (.tmp t1), y3, q3, e3, none⟩] false) :=
  rv_str (k := .text) (s := true) (g := .str) (fun args w => Tryd.call33 args w) CompactString_c (fun bs => by rw [decF_text (of_decide_eq_true h), hx]) (repF_text (of_decide_eq_true h)) hsl
theorem rv_elem {k : K} (hk : decide (k ≠ .struct) && decide (k ≠ .list) = true) (h : RvC E m x (kfR k) (decF E.flex E.ver (kfR k)) c) : RvC E m x (kfR k) (rK k E.flex) c := by
  refine h.to (funext fun bs => ?_)
  simp only [Bool.and_eq_true, decide_eq_true_eq] at hk
  unfold kfR decF
  cases k <;> first | exact absurd rfl hk.1 | exact absurd rfl hk.2 | rfl | (dsimp only; rw [if_pos (by decide)])
theorem rn_plain (hx : E.flex = false) (hsl : rsl E m [t1, x] [E.rr] = true) : RnC E m x (.region r0 #[⟨some t1, .call { callee := .value (.func 27), args := #[.tmp E.rr], argTypes := us }, y0, q0, e0, none⟩, ⟨some x, .assign (.tmp t1), y1, q1, e1, none⟩] false) :=
  rn_call (fun args w => Tryd.call27 args w) (by rw [hx]; exact ArrayLen_c) (less_len _) hsl
theorem rn_cplain (hx : E.flex = true) (hsl : rsl E m [t1, x] [E.rr] = true) : RnC E m x (.region r0 #[⟨some t1, .call { callee := .value (.func 26), args := #[.tmp E.rr], argTypes := us }, y2, q2, e2, none⟩, ⟨some x, .assign (.tmp t1), y3, q3, e3, none⟩] false) :=
  rn_call (fun args w => Tryd.call26 args w) (by rw [hx]; exact CompactArrayLen_c) (less_len _) hsl
theorem tlP_no (hx : E.flex = false) : tlP E fs = fun s bs => some (s, bs) := by
  funext s bs; unfold tlP; rw [hx]; rfl
theorem rt_noflex (hx : E.flex = false) (h : RtC E m sS k0 fs (fun _ => True) (fun s bs => some (s, bs)) c) : RtC E m sS k0 fs (fun _ => True) (tlP E fs) c := by rw [tlP_no hx]; exact h
theorem rd_noflex (hx : E.flex = false) (h : RdC E m sS k0 fs I pre (semL E fs i fun s bs => some (s, bs)) c) : RdC E m sS k0 fs I pre (semL E fs i (tlP E fs)) c := by rw [tlP_no hx]; exact h
theorem rf_list1 (hf : fs[i]? = some (.mk .list a1 a2 a3 a4 a5 of sub))
    (hB2 : (decide (a3 < 0) && roomB Tryd.prog ty (eszR E of sub) && intTB Tryd.prog ti && sliceB Tryd.prog ty (eSz Tryd.prog ty) && decide (6 < E.N) && decide (fsz E.fl (.mk .list a1 a2 a3 a4 a5 of sub) = 1) && zaR Tryd.prog T idx (k0 + foff E.fl fs i) 1 && sizeB Tryd.prog ty 1 && scalB Tryd.prog ty) = true)
    (hz : ∀ e, (Tryd.prog).underlying ty = some (.slice e) → zeroB Tryd.prog e z) (hzs : z.cells.size = eszR E of sub) (hel : ElC E (iS + 1) aS iS (eszR E of sub) (oneR E of sub) (repR E of sub) z.cells.toList body)
    (hOk : zaK Tryd.prog 28) (hCo : zaK Tryd.prog 29) (hl : RnC E lS lS cl)
    (hS : (rsl E m [w1', w2', w3', w4', vS, w5', aS, lS] [sS, E.rr] && (decide (aS < lS) && decide (aS ≠ 6) && decide (m ≤ lS)) && rsl E iS [t1, t2, t3] [E.rr, aS, lS] && rsl E iS [t4, t5] [aS, lS] && rsl E iS [t6, t7, t8, t9, t10] [aS, lS] &&
      rsl E (iS + 1) [u1, u2, u3, u4, u5] [E.rr, aS, iS, lS] && rsl E iS [iS] [aS, lS] && rsl E m [t11, vS] [] && rsl E m [v1, v2, v3, v4] [sS, E.rr] && [v1, v2, v3, v4].all (fun t => decide (t ≠ vS)) && rsl E m [aS] [] && (decide (m ≤ iS) && decide (aS ≠ lS))) = true) :
    RdC E m sS k0 fs (i + 1) (Fresh fs i) (semSet i (decF E.flex E.ver (.mk .list a1 a2 a3 a4 a5 of sub)))
      (.seq (.region r10 #[⟨some w1', .move (.tmp sS), y0, q0, e0, none⟩, ⟨some w2', .nilCheck (.tmp w1'), y1, q1, e1, none⟩, ⟨some w3', .fieldAddr T (.tmp w2') idx, y2, q2, e2, none⟩, ⟨some w4', .load ty (.tmp w3'), y3, q3, e3, none⟩, ⟨some vS, .assign (.tmp w4'), y4, q4, e4, none⟩] false)
        (.seq (.region r11 #[⟨some w5', .move (.tmp vS), y5, q5, e5, none⟩, ⟨some aS, .assign (.tmp w5'), y6, q6, e6, none⟩] false)
          (.seq (.region r12 #[⟨some lS, .assign (.const (.int .i32 0)), y7, q7, e7, none⟩] false) (.seq cl
      (.seq (.seq (.region r0 #[⟨some t1, .call { callee := .value (.func 28), args := #[.tmp E.rr], argTypes := us }, y8, q8, e8, none⟩, ⟨some t2, .unOp .not uo (.tmp t1), y9, q9, e9, none⟩] false)
        (.cond (.tmp t2) (.seq (.region r1 #[⟨some t3, .call { callee := .value (.func 29), args := #[.tmp E.rr], argTypes := us2 }, y10, q10, e10, none⟩, ⟨some 6, .assign (.tmp t3), y11, q11, e11, none⟩] false) .ret) .skip))
      (.seq (.region r2 #[⟨some t4, .move (.tmp aS), y12, q12, e12, none⟩, ⟨some t5, .slice ty (.tmp t4) none (some (.const (.int .i64 0))) none, y13, q13, e13, none⟩, ⟨some aS, .assign (.tmp t5), y14, q14, e14, none⟩] false)
      (.seq (.seq (.region r3 #[⟨some t6, .move (.tmp lS), y15, q15, e15, none⟩, ⟨some t7, .binOp .gtr ug (.tmp t6) (.const (.int .i32 0)) ug, y16, q16, e16, none⟩] false)
          (.cond (.tmp t7) (.region r4 #[⟨some t8, .move (.tmp aS), y17, q17, e17, none⟩, ⟨some t9, .move (.tmp lS), y18, q18, e18, none⟩, ⟨some t10, .call { callee := .builtin .append, args := #[.tmp t8, .tmp t9], argTypes := #[ty, ti] }, y19, q19, e19, none⟩, ⟨some aS, .assign (.tmp t10), y20, q20, e20, none⟩] false) .skip))
      (.seq (.seq (.region r5 #[⟨some iS, .assign (.const (.int .i32 0)), y21, q21, e21, none⟩] false) (.block b1 (.loop (.seq (.seq (.region r6 #[⟨some u1, .move (.tmp iS), y22, q22, e22, none⟩, ⟨some u2, .move (.tmp lS), y23, q23, e23, none⟩, ⟨some u3, .binOp .lss ua (.tmp u1) (.tmp u2) ua, y24, q24, e24, none⟩] false) (.cond (.tmp u3) .skip (.exit b1)))
          (.seq (.block b2 body) (.region r7 #[⟨some u4, .move (.tmp iS), y25, q25, e25, none⟩, ⟨some u5, .binOp .add ua (.tmp u4) (.const (.int .i32 1)) ua, y26, q26, e26, none⟩, ⟨some iS, .assign (.tmp u5), y27, q27, e27, none⟩] false))))))
        (.seq (.region r8 #[⟨some t11, .move (.tmp aS), y28, q28, e28, none⟩, ⟨some vS, .assign (.tmp t11), y29, q29, e29, none⟩] false) (.region r9 #[⟨some v1, .move (.tmp sS), y30, q30, e30, none⟩, ⟨some v2, .move (.tmp vS), y31, q31, e31, none⟩, ⟨some v3, .nilCheck (.tmp v1), y32, q32, e32, none⟩, ⟨some v4, .fieldAddr T (.tmp v3) idx, y33, q33, e33, none⟩, ⟨none, .store ty (.tmp v4) (.tmp v2), y34, q34, e34, none⟩] false)))))))))) := by
  exact rf_list hf hB2 ⟨z, hz, hzs, hel⟩ hOk hCo hl hS
theorem el_struct1 {zc dc : List Value} (hty : sliceB Tryd.prog ty (ssz E.fl sub) = true) (hen : zaK Tryd.prog fn) (hdef : DefC fn zc dc) (hz : (decide (zc.length = ssz E.fl sub) && decide (dc.length = ssz E.fl sub) && repSB E.fl sub (dfltL sub) dc) = true)
    (h : RdC ⟨E.N, E.ver, E.flex, E.fl, E.rr, none⟩ (ys + 1) ys 0 sub sub.length (Fresh sub 0) (semL ⟨E.N, E.ver, E.flex, E.fl, E.rr, none⟩ sub 0 (tlP ⟨E.N, E.ver, E.flex, E.fl, E.rr, none⟩ sub)) c) (s1 : rsl E m [t1, t2, t3, y, t4, t5, t6, ys] [E.rr, aS, iS] = true) (s2 : decide (m ≤ (ys + 1)) = true) (s3 : rsl E (ys + 1) [] [ys] = true) :
    ElC E m aS iS (eszR E .struct sub) (oneR E .struct sub) (repR E .struct sub) zc
      (.seq (.region r0 #[⟨some t1, .move (.tmp aS), y0, q0, e0, none⟩, ⟨some t2, .move (.tmp iS), y1, q1, e1, none⟩, ⟨some t3, .indexAddr ty (.tmp t1) (.tmp t2), y2, q2, e2, none⟩, ⟨some y, .assign (.tmp t3), y3, q3, e3, none⟩] false)
        (.seq (.region r1 #[⟨some t4, .move (.tmp y), y4, q4, e4, none⟩, ⟨some t5, .call { callee := .value (.func fn), args := #[.tmp t4], argTypes := us }, y5, q5, e5, none⟩] false)
          (.seq (.region r2 #[⟨some t6, .move (.tmp y), y6, q6, e6, none⟩, ⟨some ys, .assign (.tmp t6), y7, q7, e7, none⟩] false) c))) := by
  exact el_struct hty hen hdef hz h s1 s2 s3
end
end Go.Proofs.YtojpodeljpfgaabDoor
namespace Go.Proofs.YtojpodeljpfgaabDoor
set_option linter.all false
open Go.RowKit
set_option maxRecDepth 10000
set_option maxHeartbeats 1000000
section
variable {y0 y1 y2 y3 y4 y5 y6 y7 y8 y9 y10 y11 y12 y13 y14 y15 y16 y17 y18 y19 y20 y21 y22 y23 y24 y25 y26 y27 y28 y29 y30 y31 y32 y33 y34 y35 y36 y37 y38 y39 : TypeId} {q0 q1 q2 q3 q4 q5 q6 q7 q8 q9 q10 q11 q12 q13 q14 q15 q16 q17 q18 q19 q20 q21 q22 q23 q24 q25 q26 q27 q28 q29 q30 q31 q32 q33 q34 q35 q36 q37 q38 q39 : String} {e0 e1 e2 e3 e4 e5 e6 e7 e8 e9 e10 e11 e12 e13 e14 e15 e16 e17 e18 e19 e20 e21 e22 e23 e24 e25 e26 e27 e28 e29 e30 e31 e32 e33 e34 e35 e36 e37 e38 e39 : Array Edge} {r0 r1 r2 r3 r4 r5 : Nat}
variable {E : REnv} {m sS k0 i I x y t1 t2 t3 t4 t5 T ty idx : Nat} {us : Array TypeId} {f : Fld} {fs : List Fld} {pre : S → Prop} {sem : Bs → Option (D × Bs)} {fn : FuncId} {a1 a2 a3 a4 a5 : Int} {of : K} {sub : List Fld} {c : Code}
end
end Go.Proofs.YtojpodeljpfgaabDoor
