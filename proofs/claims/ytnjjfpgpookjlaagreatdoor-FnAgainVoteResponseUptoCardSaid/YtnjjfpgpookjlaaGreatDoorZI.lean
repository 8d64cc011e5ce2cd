import Derived.Test.YtnjjfpgpookjlaaGreatDoorZG
/-
What the proofs of the laws rest on, part ZI.
-/
namespace Go.Proofs.YtnjjfpgpookjlaaGreatDoor
set_option linter.all false
set_option maxRecDepth 10000
set_option maxHeartbeats 1000000
open Go.RowKit
set_option maxHeartbeats 2000000
theorem flat_take {α : Type} (enc : α → Bs) (l : List α) (i : Nat) (x : α) (h : l[i]? = some x) : (l.take (i + 1)).flatMap enc = (l.take i).flatMap enc ++ enc x := by
 rw [List.take_add_one, h, List.flatMap_append]; simp
theorem flat_le {α : Type} (enc : α → Bs) (l : List α) (i : Nat) : ((l.take i).flatMap enc).length ≤ (l.flatMap enc).length := by
 have e : l.flatMap enc = (l.take i).flatMap enc ++ (l.drop i).flatMap enc := by rw [← List.flatMap_append, List.take_append_drop]
 rw [e, List.length_append]; omega
theorem field_c (f : Fld) (ver : Int) (flex : Bool) (v : Tr) (hp : (f.kind = .struct ∨ (f.kind = .list ∧ f.of = .struct)) → PartC f.sub) (hof : f.of ≠ .list) (hvo : TROK v) (hlim : (sF flex ver f v).length ≤ SLIM)
  {w : World} {G G' : Nat → Prop} {cs ts : List Value} (hfc : SchF w G f cs) (hv : TrC w G' v ts) :
  zaF Tryz.prog 33 #[zaZ cs, .int .i64 ver, .bool flex, zaZ ts] w fun r w' => Octs w r (sF flex ver f v) w' := by
 obtain ⟨_, c0, c1, c2, c3, c4, c5, c6, x7, c7, hx7⟩ := hfc.cells
 obtain ⟨_, t0, hn, ⟨ob, cb, t1, hcb, hbb⟩, t2, ⟨x3, t3, hx3⟩, ⟨x4, t4, hx4⟩⟩ := hv.cells
 refine zaq Tryz.func33 rfl rfl Tryz.ntmps33 (by simp) ?_
 intro a hN hD ha
 have h0 : get a 0 = zaZ cs := ha 0 _ rfl
 have h1 : get a 1 = .int .i64 ver := ha 1 _ rfl
 have h2 : get a 2 = .bool flex := ha 2 _ rfl
 have h3 : get a 3 = zaZ ts := ha 3 _ rfl
 refine qsr fun K hK => ?_
 refine wl_boxA (l := cs) (by simp [qed, hN, h0]) fun w1 hc hb hs => ?_
 refine wl_boxA (l := ts) (by simp [qed, hN, h3]) fun w2 hc2 hb2 hs2 => ?_
 replace hb := hb.chg hc2 (fun h => h)
 replace hc := hc.trans hc2 (fun _ _ h => h)
 rw [hs] at hb2 ⊢
 clear hc2 hs hs2 w1
 (repeat ((first | ((with_reducible refine zaw ?_ ?_ ?_ ?_); (· rfl); (· simp [qee, hN] <;> omega); (· kernel_rfl)) | ((with_reducible refine qlS ?_ ?_ ?_); (· simp [qed, hN]); (· kernel_rfl))); try simp only [qeb, hN, seval]))
 refine zaa (hK _ _ ?_); clear hK K
 refine qsr fun K hK => ?_
 have e5 : (ts.drop 0).take 5 = ts := by rw [List.drop_zero, List.take_of_length_le (by rw [hv.len]; omega)]
 have e8 : (cs.drop 0).take 8 = cs := by rw [List.drop_zero, List.take_of_length_le (by rw [hfc.len]; omega)]
 refine za7 (b := w.heap.size) (o := 0) (n := 8) (by kernel_rfl) (by kernel_rfl) (by simp [qed, hN]) hb (by rw [hfc.len]; omega) ?_
 (repeat ((first | ((with_reducible refine zaw ?_ ?_ ?_ ?_); (· rfl); (· simp [qee, hN, h1] <;> omega); (· kernel_rfl)) | ((with_reducible refine qlS ?_ ?_ ?_); (· simp [qed, hN, h1]); (· kernel_rfl))); try simp only [qeb, hN, seval, h1]))
 refine za7 (b := w.heap.size + 1) (o := 0) (n := 5) (by kernel_rfl) (by kernel_rfl) (by simp [qed, hN]) hb2 (by rw [hv.len]; omega) ?_
 rw [e5, e8]
 refine zaz (fun args w => Tryz.call60 args w) (by simp [qea, hN, seval, h1]; exact null_c f ver v (hfc.stay (zbl.none hc)) (hv.stay (zbl.none hc))) ?_
 rintro _ w3 ⟨rfl, hc3⟩
 have hcw : Chg (fun _ => False) w w3 := hc.trans hc3 fun _ _ h => h
 replace hb := hb.chg hc3 fun h => h
 replace hb2 := hb2.chg hc3 fun h => h
 (repeat ((first | ((with_reducible refine zaw ?_ ?_ ?_ ?_); (· rfl); (· simp [qee, hN] <;> omega); (· kernel_rfl)) | ((with_reducible refine qlS ?_ ?_ ?_); (· simp [qed, hN]); (· kernel_rfl))); try simp only [qeb, hN, seval]))
 refine zaa (hK _ _ ?_); clear hK K
 refine qsk fun K0 hK0 => ?_; refine qsr fun K1 hK1 => ?_
 with_reducible refine zay (b := w.heap.size) (off := 0) (n := 1) ?_ ?_ ?_; (· kernel_rfl); (· simp [qed, hN])
 with_reducible refine zaK (b := w.heap.size) (o := 0) ?_ ?_ hb c0 ?_; (· kernel_rfl); (· simp [qed, hN])
 unfold kV
 (repeat ((first | ((with_reducible refine zaw ?_ ?_ ?_ ?_); (· rfl); (· simp [qee, hN] <;> omega); (· kernel_rfl)) | ((with_reducible refine qlS ?_ ?_ ?_); (· simp [qed, hN]); (· kernel_rfl))); try simp only [qeb, hN, seval]))
 by_cases hl : f.kind = .list
 ·obtain ⟨k, fr, to, nl, tg, df, of, sub⟩ := f
  simp only [Fld.kind, Fld.null, Fld.dflt, Fld.sub, Fld.of, Fld.from_, Fld.to, Fld.tag] at hl c0 c1 c2 c3 c4 c5 c6 c7 hx7 hp hof ⊢
  subst hl
  rw [sF_eq] at hlim
  dsimp only at hlim
  simp only [zaI]
  refine zaa ?_
  refine hK1 _ _ ?_; try clear hK1 K1
  refine wp_cond_true (by simp [qed, hN]) ?_
  refine qsr fun K hK => ?_
  with_reducible refine zay (b := w.heap.size + 1) (off := 3) (n := 1) ?_ ?_ ?_; (· kernel_rfl); (· simp [qed, hN])
  with_reducible refine zaK (b := w.heap.size + 1) (o := 3) ?_ ?_ hb2 t3 ?_; (· kernel_rfl); (· simp [qed, hN])
  refine zaz (fun args w => Tryz.call61 args w) (by simp [qea, hN, seval]; exact things_c v.l (hx3.stay (zbl.none hcw))) ?_
  rintro x10 w4 ⟨hx10, rfl⟩
  (repeat ((first | ((with_reducible refine zaw ?_ ?_ ?_ ?_); (· rfl); (· simp [qee, hN] <;> omega); (· kernel_rfl)) | ((with_reducible refine qlS ?_ ?_ ?_); (· simp [qed, hN]); (· kernel_rfl))); try simp only [qeb, hN, seval]))
  refine zaa (hK _ _ ?_); clear hK K
  refine qsk fun K5 hK5 => ?_
  have rest : ∀ (a' : Act), a'.tmps.size = 76 → a'.defers = [] → get a' 1 = .int .i64 ver → get a' 2 = .bool flex → get a' 4 = .pointer (some ⟨w.heap.size, 0, none⟩) → get a' 9 = .bool (za1 nl ver v) →
    TrS w4 G' (if za1 nl ver v then [] else v.l.take zbu) (get a' 10) → K5 a' w4 := by
   clear hN hD
   intro a hN hD g1 g2 g4 g9 g10
   refine hK5 _ _ ?_; try clear hK5 K5
   have hmem : ∀ x ∈ (if za1 nl ver v then [] else v.l.take zbu), TROK x := by
    intro x hx
    split at hx
    ·cases hx
    ·exact hvo.parts.2.2.2.2.mem x (List.mem_of_mem_take hx)
   have hll : (if za1 nl ver v then [] else v.l.take zbu).length ≤ 32767 := by
    split
    ·simp
    ·rw [List.length_take]; unfold zbu; omega
   have hkey := sF_eq flex ver .list fr to nl tg df of sub v
   dsimp only at hkey
   generalize (if za1 nl ver v then [] else v.l.take zbu) = l at g10 hlim hmem hll hkey
   generalize hnul : za1 nl ver v = nul at g9 hlim hkey
   obtain ⟨ol, cl, e10, hcl, hel⟩ := g10
   rw [List.length_append] at hlim
   unfold SLIM at hlim
   refine qsr fun K hK => ?_
   (repeat ((first | ((with_reducible refine zaw ?_ ?_ ?_ ?_); (· rfl); (· simp [qee, hN, g2, g9, e10] <;> omega); (· kernel_rfl)) | ((with_reducible refine qlS ?_ ?_ ?_); (· simp [qed, hN, g2, g9, e10]); (· kernel_rfl))); try simp only [qeb, hN, seval, g2, g9, e10]))
   refine zaz (fun args w => Tryz.call62 args w) (by simp [qea, hN, seval]; exact counted_c flex nul l.length 4 (by omega) (by omega)) ?_
   rintro r w5 ho
   (repeat ((first | ((with_reducible refine zaw ?_ ?_ ?_ ?_); (· rfl); (· simp [qee, hN] <;> omega); (· kernel_rfl)) | ((with_reducible refine qlS ?_ ?_ ?_); (· simp [qed, hN]); (· kernel_rfl))); try simp only [qeb, hN, seval]))
   refine zaa (hK _ _ ?_); clear hK K
   refine qsk fun K6 hK6 => ?_; refine qsr fun K hK => ?_
   (repeat ((first | ((with_reducible refine zaw ?_ ?_ ?_ ?_); (· rfl); (· simp [qee, hN, e10] <;> omega); (· kernel_rfl)) | ((with_reducible refine qlS ?_ ?_ ?_); (· simp [qed, hN, e10]); (· kernel_rfl))); try simp only [qeb, hN, seval, e10]))
   refine zaa (hK _ _ ?_); clear hK K
   refine wp_range (n := l.length) (fun i a' w' => a'.tmps.size = 76 ∧ a'.defers = [] ∧ get a' 1 = .int .i64 ver ∧ get a' 2 = .bool flex ∧ get a' 4 = .pointer (some ⟨w.heap.size, 0, none⟩) ∧ get a' 10 = .slice ol l.length cl ∧
     Own eB w' w4.heap.size (get a' 11) (sCount flex nul l.length 4 ++ (l.take i).flatMap fun x => sVal of sub flex false ver x) ∧ Chg (fun k => w4.heap.size ≤ k) w4 w') 76 (by omega)
    (by simp only [qea, hN, seval]) (by simp only [qea, hN, seval]) ⟨by simp only [qea, hN, seval], by simp [zab, hD], by simp only [qea, hN, seval, g1], by simp only [qea, hN, seval, g2], by simp only [qea, hN, seval, g4], by simp only [qea, hN, seval, e10], by simp only [qea, hN, seval]; simpa using ho.1, ho.2.mono fun _ _ h => h.elim⟩ ?_ ?_ (by decide) ?_ ?_
   ·rintro i a w ⟨h, _⟩; exact h
   ·rintro i a w t v ht ⟨k1, k2, k3, k4, k5, k6, k7⟩
    rcases ht with rfl | rfl | rfl <;> exact ⟨by rw [zag]; exact k1, by rw [zab]; exact k2, by rw [zae (by decide)]; exact k3, by rw [zae (by decide)]; exact k4, by rw [zae (by decide)]; exact k5, by rw [zae (by decide)]; exact k6, by rw [zae (by decide)]; exact k7⟩
   ·clear hN hD
    rintro i a1 w1 hi ⟨hN, hD, k1, k2, k4, k10, kown, kch⟩ g30 g31
    have hx : l[i]? = some l[i] := by simp [hi]
    have hle1 := flat_le (fun x => sVal of sub flex false ver x) l (i + 1)
    rw [flat_take _ l i _ hx, List.length_append] at hle1
    rcases hel with rfl | ⟨g, o, tc, T, rfl, hg, hbg, htl⟩
    ·cases hi
    obtain ⟨hxc, hxl⟩ := htl.get hx
    rw [List.drop_drop] at hxc
    rw [List.length_drop] at hxl
    have hbg1 : ∀ w', Chg (fun k => w4.heap.size ≤ k) w4 w' → Rbk w' g tc T := fun w' c => hbg.chg c (by have := hbg.lt; omega)
    have hb1 : ∀ w', Chg (fun k => w4.heap.size ≤ k) w4 w' → Blk w' w.heap.size cs 48 := fun w' c => hb.chg c (by have := hb.lt; omega)
    obtain ⟨oa, cap, rfl, hsub⟩ := hx7
    refine qsr fun K hK => ?_
    (repeat ((first | ((with_reducible refine zaw ?_ ?_ ?_ ?_); (· rfl); (· simp [qee, hN, g31] <;> omega); (· kernel_rfl)) | ((with_reducible refine qlS ?_ ?_ ?_); (· simp [qed, hN, g31]); (· kernel_rfl))); try simp only [qeb, hN, seval, g31]))
    refine zaa (hK _ _ ?_); clear hK K
    refine wp_sched (fun w' => Chg (fun k => w4.heap.size ≤ k) w4 w') [(true, 0), (true, 1), (true, 2), (true, 3), (true, 4), (true, 5), (true, 6), (true, 7), (true, 8), (true, 9), (true, 10), (false, 11), (false, 12), (true, 13)] zaR (by kernel_rfl) (by kernel_rfl) (kch.trans (Chg.drew _ _) fun _ _ h => h) ?_
    refine zbf rfl ?_
    simp only [qea, hN, seval]
    refine zbp (b := w.heap.size) (o := 0) (off := 6) (n := 1) (by kernel_rfl) rfl (by simp [qed, hN, k4]) ?_
    refine ws_load (b := w.heap.size) (o := 0 + 6) (by kernel_rfl) rfl (by simp [qed, hN]) hb1 c6 ?_
    refine zbp (b := w.heap.size) (o := 0) (off := 7) (n := 1) (by kernel_rfl) rfl (by simp [qed, hN, k4]) ?_
    refine ws_load (b := w.heap.size) (o := 0 + 7) (by kernel_rfl) rfl (by simp [qed, hN]) hb1 c7 ?_
    refine zbf rfl ?_
    refine zbf rfl ?_
    refine zbf rfl ?_
    refine zbf rfl ?_
    simp only [qea, hN, seval, k1, k2, k10]
    refine ws_indexAddr (b := g) (o := o) (k := .i64) (j := i) (n := 5) (len := l.length) (cap := cl) (by kernel_rfl) rfl (by simp [qed, hN]) (by simp [qed, hN]) hi ?_
    refine ws_loadAgg_r (b := g) (o := o + i * 5) (n := 5) (by kernel_rfl) (by kernel_rfl) rfl (by simp [qed, hN]) hbg1 (by omega) ?_
    have hcw1 : Chg (fun _ => False) w w1.drew := (hcw.trans kch fun n hn h => by have := hcw.size; omega).trans (Chg.drew _ _) fun _ _ h => h
    have hkd : Chg (fun k => w4.heap.size ≤ k) w4 w1.drew := kch.trans (Chg.drew _ _) fun _ _ h => h
    have hst : zbl w4 w1.drew G' G' := zbl.of hkd fun n _ hn h => by omega
    refine ws_call (fun args w => Tryz.call63 args w) rfl (by simp [qea, hN, seval]; exact value_c of sub false ver flex l[i] hof (fun h => hp (.inr ⟨rfl, h⟩)) (hmem _ (List.getElem_mem hi)) (by unfold SLIM; omega) (SchS.stay (zbl.none hcw1) ⟨oa, cap, rfl, hsub⟩) (hxc.stay hst)) ?_
    rintro v7 w7 hov
    have hk7 : Chg (fun k => w4.heap.size ≤ k) w4 w7 := hkd.trans hov.2 fun _ _ h => h.elim
    refine ⟨hk7, ?_⟩
    obtain ⟨oa7, cap7, rfl, _, hb7⟩ := hov.1.bytes
    have kown7 : Own eB w7 w4.heap.size (get a1 11) _ := (kown.chg (Chg.drew (fun _ => False) _) fun _ _ h => h).chg hov.2 fun _ _ h => h
    refine ws_step rfl fun K' hK' => wl_append bT (bs' := sVal of sub flex false ver l[i]) (oa := oa7) (c := cap7) (by simp only [qea, hN, seval]) (by simp only [qea, hN, seval]) kown7 hb7 (by rw [List.length_append]; unfold LIM; omega) hk7.size ?_
    intro v8 w8 happ
    refine zaa (hK' _ _ ?_ ?_)
    ·exact hk7.trans (happ.chgFrom kown7) fun _ _ h => h
    refine ws_assign rfl ?_
    simp only [qea, hN, seval]
    refine ws_nil ?_
    refine ⟨⟨by simp only [qea, hN, seval], by simp [zab, hD], by simp only [qea, hN, seval, k1], by simp only [qea, hN, seval, k2], by simp only [qea, hN, seval, k4], by simp only [qea, hN, seval, k10], ?_, hk7.trans (happ.chgFrom kown7) fun _ _ h => h⟩, by simp only [qea, hN, seval, g30], by simp only [qea, hN, seval, g31]⟩
    simp only [qea, hN, seval]
    rw [flat_take _ l i _ hx, ← List.append_assoc]
    exact happ.own
   ·clear hN hD
    rintro a1 w6 ⟨hN, hD, k1, k2, k4, k10, kown, kch⟩
    refine hK6 _ _ ?_; try clear hK6 K6
    (repeat (first | (with_reducible refine wp_seq_k (fun K hK => ?_)) | (with_reducible refine wp_block ?_) | ((with_reducible refine zax ?_); (repeat (first | ((with_reducible refine zaw ?_ ?_ ?_ ?_); (· exact rfl); (· simp [qee, hN, zac] <;> omega); (· kernel_rfl); try simp only [qeb, hN, seval, zac]) | ((with_reducible refine qlS ?_ ?_ ?_); (· simp [qed, hN, zac]); (· kernel_rfl); try simp only [qeb, hN, seval, zac]) | ((with_reducible first | refine zaC ?_ ?_ ?_ | refine zaB ?_ ?_ ?_ | refine zaD ?_ ?_) <;> (first | (with_reducible refine zau ?_; try simp only [qeb, hN, seval, zac]) | (simp [qed, hN, zac] <;> omega))) | ((with_reducible refine zao ?_ ?_); (· simp [qed, hN, zac]); try simp only [qeb, hN, seval, zac]) | ((with_reducible refine zan ?_ ?_); (· simp [qed, hN, zac]); try simp only [qeb, hN, seval, zac]) | ((with_reducible apply zak); (· exact rfl); (· exact rfl); (· simp [qed, hN, zac]); try simp only [qeb, hN, seval, zac]) | ((with_reducible apply zas); (· exact rfl); (· exact rfl); (· simp [qed, hN, zac]); try simp only [qeb, hN, seval, zac]) | ((with_reducible apply zat); (· exact rfl); (· exact rfl); (· simp [qed, hN, zac]); try simp only [qeb, hN, seval, zac]))); (refine zaa ?_)) | ((with_reducible refine wp_cond_true ?_ ?_); (· simp [qed, hN])) | ((with_reducible refine wp_cond_false ?_ ?_); (· simp [qed, hN])) | (with_reducible refine wp_skip ?_) | (refine hK _ _ ?_; clear hK K)))
    refine wp_ret ⟨by simp [zab, hD], ?_⟩; simp only [qea, hN, seval]
    rw [List.take_length, ← hkey] at kown
    exact ⟨kown.mono hcw.size, hcw.trans kch fun n hn h => by have := hcw.size; omega⟩
  refine qsr fun K hK => ?_
  (repeat ((first | ((with_reducible refine zaw ?_ ?_ ?_ ?_); (· rfl); (· simp [qee, hN] <;> omega); (· kernel_rfl)) | ((with_reducible refine qlS ?_ ?_ ?_); (· simp [qed, hN]); (· kernel_rfl))); try simp only [qeb, hN, seval]))
  refine zaa (hK _ _ ?_); clear hK K
  cases hnul : za1 nl ver v with
  | true =>
   rw [hnul] at rest
   (repeat (first | (with_reducible refine wp_seq_k (fun K hK => ?_)) | (with_reducible refine wp_block ?_) | ((with_reducible refine zax ?_); (repeat (first | ((with_reducible refine zaw ?_ ?_ ?_ ?_); (· exact rfl); (· simp [qee, hN, hnul, zac] <;> omega); (· kernel_rfl); try simp only [qeb, hN, seval, hnul, zac]) | ((with_reducible refine qlS ?_ ?_ ?_); (· simp [qed, hN, hnul, zac]); (· kernel_rfl); try simp only [qeb, hN, seval, hnul, zac]) | ((with_reducible first | refine zaC ?_ ?_ ?_ | refine zaB ?_ ?_ ?_ | refine zaD ?_ ?_) <;> (first | (with_reducible refine zau ?_; try simp only [qeb, hN, seval, hnul, zac]) | (simp [qed, hN, hnul, zac] <;> omega))) | ((with_reducible refine zao ?_ ?_); (· simp [qed, hN, hnul, zac]); try simp only [qeb, hN, seval, hnul, zac]) | ((with_reducible refine zan ?_ ?_); (· simp [qed, hN, hnul, zac]); try simp only [qeb, hN, seval, hnul, zac]) | ((with_reducible apply zak); (· exact rfl); (· exact rfl); (· simp [qed, hN, hnul, zac]); try simp only [qeb, hN, seval, hnul, zac]) | ((with_reducible apply zas); (· exact rfl); (· exact rfl); (· simp [qed, hN, hnul, zac]); try simp only [qeb, hN, seval, hnul, zac]) | ((with_reducible apply zat); (· exact rfl); (· exact rfl); (· simp [qed, hN, hnul, zac]); try simp only [qeb, hN, seval, hnul, zac]))); (refine zaa ?_)) | ((with_reducible refine wp_cond_true ?_ ?_); (· simp [qed, hN, hnul])) | ((with_reducible refine wp_cond_false ?_ ?_); (· simp [qed, hN, hnul])) | (with_reducible refine wp_skip ?_) | (refine hK _ _ ?_; clear hK K)))
   exact rest _ (by simp only [qea, hN, seval]) (by simp [zab, hD]) (by simp only [qea, hN, seval, h1]) (by simp only [qea, hN, seval, h2]) (by simp only [qea, hN, seval]) (by simp only [qea, hN, seval, hnul]) (by simp only [qea, hN, seval]; exact ⟨none, 0, rfl, Nat.le_refl _, .inl rfl⟩)
  | false =>
   rw [hnul] at rest
   (repeat (first | (with_reducible refine wp_seq_k (fun K hK => ?_)) | (with_reducible refine wp_block ?_) | ((with_reducible refine zax ?_); (repeat (first | ((with_reducible refine zaw ?_ ?_ ?_ ?_); (· exact rfl); (· simp [qee, hN, hnul, zac] <;> omega); (· kernel_rfl); try simp only [qeb, hN, seval, hnul, zac]) | ((with_reducible refine qlS ?_ ?_ ?_); (· simp [qed, hN, hnul, zac]); (· kernel_rfl); try simp only [qeb, hN, seval, hnul, zac]) | ((with_reducible first | refine zaC ?_ ?_ ?_ | refine zaB ?_ ?_ ?_ | refine zaD ?_ ?_) <;> (first | (with_reducible refine zau ?_; try simp only [qeb, hN, seval, hnul, zac]) | (simp [qed, hN, hnul, zac] <;> omega))) | ((with_reducible refine zao ?_ ?_); (· simp [qed, hN, hnul, zac]); try simp only [qeb, hN, seval, hnul, zac]) | ((with_reducible refine zan ?_ ?_); (· simp [qed, hN, hnul, zac]); try simp only [qeb, hN, seval, hnul, zac]) | ((with_reducible apply zak); (· exact rfl); (· exact rfl); (· simp [qed, hN, hnul, zac]); try simp only [qeb, hN, seval, hnul, zac]) | ((with_reducible apply zas); (· exact rfl); (· exact rfl); (· simp [qed, hN, hnul, zac]); try simp only [qeb, hN, seval, hnul, zac]) | ((with_reducible apply zat); (· exact rfl); (· exact rfl); (· simp [qed, hN, hnul, zac]); try simp only [qeb, hN, seval, hnul, zac]))); (refine zaa ?_)) | ((with_reducible refine wp_cond_true ?_ ?_); (· simp [qed, hN, hnul])) | ((with_reducible refine wp_cond_false ?_ ?_); (· simp [qed, hN, hnul])) | (with_reducible refine wp_skip ?_) | (refine hK _ _ ?_; clear hK K)))
   exact rest _ (by simp only [qea, hN, seval]) (by simp [zab, hD]) (by simp only [qea, hN, seval, h1]) (by simp only [qea, hN, seval, h2]) (by simp only [qea, hN, seval]) (by simp only [qea, hN, seval, hnul]) (by simp only [qea, hN, seval]; exact hx10)
 ·have hlk : ¬ ((zaI f.kind : Int) = 11) := by
   intro h; apply hl; cases hk : f.kind <;> rw [hk] at h <;> first | rfl | (simp [zaI] at h)
  refine zaa ?_
  refine hK1 _ _ ?_; try clear hK1 K1
  refine wp_cond_false (by simp [qed, hN, hlk]) ?_
  refine wp_skip ?_
  refine hK0 _ _ ?_; try clear hK0 K0
  obtain ⟨oa, cap, rfl, hsub⟩ := hx7
  have hs3 : SchS w3 G f.sub (.slice oa f.sub.length cap) := SchS.stay (zbl.none hcw) ⟨oa, cap, rfl, hsub⟩
  have hv3 := hv.stay (zbl.none hcw)
  refine qsk fun K2 hK2 => ?_
  have tail : sF flex ver f v = sVal f.kind f.sub flex (za1 f.null ver v) ver v → ∀ a' : Act, a'.tmps.size = 76 → a'.defers = [] → get a' 1 = .int .i64 ver → get a' 2 = .bool flex → get a' 4 = .pointer (some ⟨w.heap.size, 0, none⟩) →
    get a' 7 = .pointer (some ⟨w.heap.size + 1, 0, none⟩) → get a' 9 = .bool (za1 f.null ver v) → K2 a' w3 := by
   clear hN hD
   intro heq a hN hD g1 g2 g4 g7 g9
   refine hK2 _ _ ?_; try clear hK2 K2
   rw [heq] at hlim
   refine qsr fun K hK => ?_
   with_reducible refine zay (b := w.heap.size) (off := 0) (n := 1) ?_ ?_ ?_
   ·kernel_rfl
   ·simp [qed, hN, g4]
   with_reducible refine zaK (b := w.heap.size) (o := 0) ?_ ?_ hb c0 ?_; (· kernel_rfl); (· simp [qed, hN])
   with_reducible refine zay (b := w.heap.size) (off := 7) (n := 1) ?_ ?_ ?_
   ·kernel_rfl
   ·simp [qed, hN, g4]
   with_reducible refine zaK (b := w.heap.size) (o := 7) ?_ ?_ hb c7 ?_; (· kernel_rfl); (· simp [qed, hN])
   (repeat ((first | ((with_reducible refine zaw ?_ ?_ ?_ ?_); (· rfl); (· simp [qee, hN, g9, g1, g2] <;> omega); (· kernel_rfl)) | ((with_reducible refine qlS ?_ ?_ ?_); (· simp [qed, hN, g9, g1, g2]); (· kernel_rfl))); try simp only [qeb, hN, seval, g9, g1, g2]))
   refine za7 (b := w.heap.size + 1) (o := 0) (n := 5) (by kernel_rfl) (by kernel_rfl) (by simp [qed, hN, g7]) hb2 (by rw [hv.len]; omega) ?_
   rw [e5]
   refine zaz (fun args w => Tryz.call63 args w) (by simp [qea, hN, seval]; exact value_c f.kind f.sub (za1 f.null ver v) ver flex v hl (fun h => hp (.inl h)) hvo hlim hs3 hv3) ?_
   rintro r w4 ho
   (repeat ((first | ((with_reducible refine zaw ?_ ?_ ?_ ?_); (· rfl); (· simp [qee, hN] <;> omega); (· kernel_rfl)) | ((with_reducible refine qlS ?_ ?_ ?_); (· simp [qed, hN]); (· kernel_rfl))); try simp only [qeb, hN, seval]))
   refine zaa (hK _ _ ?_); clear hK K
   refine wp_ret ⟨by simp [zab, hD], ?_⟩; simp only [qea, hN, seval]
   rw [heq]
   exact ⟨ho.1.mono hcw.size, hcw.trans ho.2 fun _ _ h => h⟩
  refine qsr fun K3 hK3 => ?_
  with_reducible refine zay (b := w.heap.size) (off := 0) (n := 1) ?_ ?_ ?_; (· kernel_rfl); (· simp [qed, hN])
  with_reducible refine zaK (b := w.heap.size) (o := 0) ?_ ?_ hb c0 ?_; (· kernel_rfl); (· simp [qed, hN])
  unfold kV
  by_cases hst : f.kind = .struct
  ·have hsk : ((zaI f.kind : Int) == 10) = true := by rw [hst]; rfl
   (repeat (first | ((with_reducible refine zaw ?_ ?_ ?_ ?_); (· exact rfl); (· simp [qee, hN, hsk, zac] <;> omega); (· kernel_rfl); try simp only [qeb, hN, seval, hsk, zac]) | ((with_reducible refine qlS ?_ ?_ ?_); (· simp [qed, hN, hsk, zac]); (· kernel_rfl); try simp only [qeb, hN, seval, hsk, zac]) | ((with_reducible first | refine zaC ?_ ?_ ?_ | refine zaB ?_ ?_ ?_ | refine zaD ?_ ?_) <;> (first | (with_reducible refine zau ?_; try simp only [qeb, hN, seval, hsk, zac]) | (simp [qed, hN, hsk, zac] <;> omega))) | ((with_reducible refine zao ?_ ?_); (· simp [qed, hN, hsk, zac]); try simp only [qeb, hN, seval, hsk, zac]) | ((with_reducible refine zan ?_ ?_); (· simp [qed, hN, hsk, zac]); try simp only [qeb, hN, seval, hsk, zac]) | ((with_reducible apply zak); (· exact rfl); (· exact rfl); (· simp [qed, hN, hsk, zac]); try simp only [qeb, hN, seval, hsk, zac]) | ((with_reducible apply zas); (· exact rfl); (· exact rfl); (· simp [qed, hN, hsk, zac]); try simp only [qeb, hN, seval, hsk, zac]) | ((with_reducible apply zat); (· exact rfl); (· exact rfl); (· simp [qed, hN, hsk, zac]); try simp only [qeb, hN, seval, hsk, zac])))
   with_reducible refine zay (b := w.heap.size) (off := 3) (n := 1) ?_ ?_ ?_; (· kernel_rfl); (· simp [qed, hN])
   (repeat (first | ((with_reducible refine zaw ?_ ?_ ?_ ?_); (· exact rfl); (· simp [qee, hN, hsk, zac] <;> omega); (· kernel_rfl); try simp only [qeb, hN, seval, hsk, zac]) | ((with_reducible refine qlS ?_ ?_ ?_); (· simp [qed, hN, hsk, zac]); (· kernel_rfl); try simp only [qeb, hN, seval, hsk, zac]) | ((with_reducible first | refine zaC ?_ ?_ ?_ | refine zaB ?_ ?_ ?_ | refine zaD ?_ ?_) <;> (first | (with_reducible refine zau ?_; try simp only [qeb, hN, seval, hsk, zac]) | (simp [qed, hN, hsk, zac] <;> omega))) | ((with_reducible refine zao ?_ ?_); (· simp [qed, hN, hsk, zac]); try simp only [qeb, hN, seval, hsk, zac]) | ((with_reducible refine zan ?_ ?_); (· simp [qed, hN, hsk, zac]); try simp only [qeb, hN, seval, hsk, zac]) | ((with_reducible apply zak); (· exact rfl); (· exact rfl); (· simp [qed, hN, hsk, zac]); try simp only [qeb, hN, seval, hsk, zac]) | ((with_reducible apply zas); (· exact rfl); (· exact rfl); (· simp [qed, hN, hsk, zac]); try simp only [qeb, hN, seval, hsk, zac]) | ((with_reducible apply zat); (· exact rfl); (· exact rfl); (· simp [qed, hN, hsk, zac]); try simp only [qeb, hN, seval, hsk, zac])))
   with_reducible refine zaK (b := w.heap.size) (o := 3) ?_ ?_ hb c3 ?_; (· kernel_rfl); (· simp [qed, hN])
   by_cases hnl : 0 ≤ f.null
   ·(repeat (first | ((with_reducible refine zaw ?_ ?_ ?_ ?_); (· exact rfl); (· simp [qee, hN, hsk, hnl, zac] <;> omega); (· kernel_rfl); try simp only [qeb, hN, seval, hsk, hnl, zac]) | ((with_reducible refine qlS ?_ ?_ ?_); (· simp [qed, hN, hsk, hnl, zac]); (· kernel_rfl); try simp only [qeb, hN, seval, hsk, hnl, zac]) | ((with_reducible first | refine zaC ?_ ?_ ?_ | refine zaB ?_ ?_ ?_ | refine zaD ?_ ?_) <;> (first | (with_reducible refine zau ?_; try simp only [qeb, hN, seval, hsk, hnl, zac]) | (simp [qed, hN, hsk, hnl, zac] <;> omega))) | ((with_reducible refine zao ?_ ?_); (· simp [qed, hN, hsk, hnl, zac]); try simp only [qeb, hN, seval, hsk, hnl, zac]) | ((with_reducible refine zan ?_ ?_); (· simp [qed, hN, hsk, hnl, zac]); try simp only [qeb, hN, seval, hsk, hnl, zac]) | ((with_reducible apply zak); (· exact rfl); (· exact rfl); (· simp [qed, hN, hsk, hnl, zac]); try simp only [qeb, hN, seval, hsk, hnl, zac]) | ((with_reducible apply zas); (· exact rfl); (· exact rfl); (· simp [qed, hN, hsk, hnl, zac]); try simp only [qeb, hN, seval, hsk, hnl, zac]) | ((with_reducible apply zat); (· exact rfl); (· exact rfl); (· simp [qed, hN, hsk, hnl, zac]); try simp only [qeb, hN, seval, hsk, hnl, zac])))
    refine zaa ?_
    refine hK3 _ _ ?_; try clear hK3 K3
    refine wp_cond_true (by simp [qed, hN]) ?_
    have heq : sF flex ver f v = if za1 f.null ver v then be 1 (-1) else be 1 1 ++ sPart flex ver f.sub v := by
     obtain ⟨k, fr, to, nl, tg, df, of, sub⟩ := f
     simp only [Fld.kind, Fld.null, Fld.sub] at hst hnl ⊢
     subst hst
     rw [sF_eq]
     simp only [if_pos hnl]
     rfl
    rw [heq] at hlim
    refine qsk fun K4 hK4 => ?_; refine qsr fun K hK => ?_
    (repeat ((first | ((with_reducible refine zaw ?_ ?_ ?_ ?_); (· rfl); (· simp [qee, hN] <;> omega); (· kernel_rfl)) | ((with_reducible refine qlS ?_ ?_ ?_); (· simp [qed, hN]); (· kernel_rfl))); try simp only [qeb, hN, seval]))
    refine zaa (hK _ _ ?_); clear hK K
    cases hnul : za1 f.null ver v with
    | true =>
     refine wp_cond_true (by simp [qed, hN, hnul]) ?_
     refine qsr fun K hK => ?_
     refine zaz (fun args w => Tryz.call64 args w) (by simp [qea, hN, seval]; exact Fixed_c (-1) 1 (by omega)) ?_
     rintro r w4 ho
     (repeat ((first | ((with_reducible refine zaw ?_ ?_ ?_ ?_); (· rfl); (· simp [qee, hN] <;> omega); (· kernel_rfl)) | ((with_reducible refine qlS ?_ ?_ ?_); (· simp [qed, hN]); (· kernel_rfl))); try simp only [qeb, hN, seval]))
     refine zaa (hK _ _ ?_); clear hK K
     refine wp_ret ⟨by simp [zab, hD], ?_⟩; simp only [qea, hN, seval]
     rw [heq, hnul, if_pos rfl]
     exact ⟨ho.1.mono hcw.size, hcw.trans ho.2 fun _ _ h => h⟩
    | false =>
     refine wp_cond_false (by simp [qed, hN, hnul]) ?_
     refine wp_skip ?_
     refine hK4 _ _ ?_; try clear hK4 K4
     rw [hnul, if_neg (by simp), List.length_append] at hlim
     unfold SLIM at hlim
     rw [hnul, if_neg (by simp)] at heq
     refine qsk fun K hK => ?_
     refine wp_sched (fun w' => Chg (fun k => w3.heap.size ≤ k) w3 w') [(true, 1), (true, 2), (true, 3), (true, 4), (true, 5), (false, 0), (false, 6), (false, 7), (true, 8)] zaR (by kernel_rfl) (by kernel_rfl) (Chg.drew _ _) ?_
     refine zbp (b := w.heap.size) (o := 0) (off := 7) (n := 1) (by kernel_rfl) rfl (by simp [qed, hN]) ?_
     refine ws_load (b := w.heap.size) (o := 0 + 7) (by kernel_rfl) rfl (by simp [qed, hN]) (fun w' c => hb.chg c (by have := hb.lt; omega)) c7 ?_
     refine zbf rfl ?_
     refine zbf rfl ?_
     simp only [qea, hN, seval, h1, h2]
     refine ws_loadAgg (b := w.heap.size + 1) (o := 0) (n := 5) (by kernel_rfl) (by kernel_rfl) rfl (by simp [qed, hN]) (fun w' c => hb2.chg c (by have := hb2.lt; omega)) (by rw [hv.len]; omega) ?_
     rw [e5]
     refine ws_call (fun args w => Tryz.call64 args w) rfl (by simp [qea, hN, seval]; exact Fixed_c 1 1 (by omega)) ?_
     rintro v5 w5 ho5
     have hk5 : Chg (fun _ => False) w3 w5 := (Chg.drew _ _).trans ho5.2 fun _ _ h => h
     refine ⟨hk5.mono fun _ _ h => h.elim, ?_⟩
     refine ws_call (fun args w => Tryz.call18 args w) rfl (by simp [qea, hN, seval]; exact hp (.inl hst) ver flex v hvo (by unfold SLIM; omega) (hs3.stay (zbl.none hk5)) (hv3.stay (zbl.none hk5))) ?_
     rintro v6 w6 ho6
     have hk6 : Chg (fun _ => False) w3 w6 := hk5.trans ho6.2 fun _ _ h => h
     refine ⟨hk6.mono fun _ _ h => h.elim, ?_⟩
     obtain ⟨oa7, cap7, rfl, _, hb7⟩ := ho6.1.bytes
     have kown : Own eB w6 w3.heap.size v5 (be 1 1) := (ho5.later ho6.2)
     refine ws_step rfl fun K' hK' => wl_append bT (bs' := sPart flex ver f.sub v) (oa := oa7) (c := cap7) (by simp only [qea, hN, seval]) (by simp only [qea, hN, seval]) kown hb7 (by unfold LIM; omega) hk6.size ?_
     intro v8 w8 happ
     have hk8 : Chg (fun k => w3.heap.size ≤ k) w3 w8 := (hk6.mono fun _ _ h => h.elim).trans (happ.chgFrom kown) fun _ _ h => h
     refine zaa (hK' _ _ hk8 ?_)
     refine ws_assign rfl ?_
     simp only [qea, hN, seval]
     refine ws_nil ?_
     refine hK _ _ ?_
     refine wp_ret ⟨by simp [zab, hD], ?_⟩; simp only [qea, hN, seval]
     rw [heq]
     exact ⟨happ.own.mono hcw.size, hcw.trans hk8 fun n hn h => by have := hcw.size; omega⟩
   ·(repeat (first | ((with_reducible refine zaw ?_ ?_ ?_ ?_); (· exact rfl); (· simp [qee, hN, hsk, hnl, zac] <;> omega); (· kernel_rfl); try simp only [qeb, hN, seval, hsk, hnl, zac]) | ((with_reducible refine qlS ?_ ?_ ?_); (· simp [qed, hN, hsk, hnl, zac]); (· kernel_rfl); try simp only [qeb, hN, seval, hsk, hnl, zac]) | ((with_reducible first | refine zaC ?_ ?_ ?_ | refine zaB ?_ ?_ ?_ | refine zaD ?_ ?_) <;> (first | (with_reducible refine zau ?_; try simp only [qeb, hN, seval, hsk, hnl, zac]) | (simp [qed, hN, hsk, hnl, zac] <;> omega))) | ((with_reducible refine zao ?_ ?_); (· simp [qed, hN, hsk, hnl, zac]); try simp only [qeb, hN, seval, hsk, hnl, zac]) | ((with_reducible refine zan ?_ ?_); (· simp [qed, hN, hsk, hnl, zac]); try simp only [qeb, hN, seval, hsk, hnl, zac]) | ((with_reducible apply zak); (· exact rfl); (· exact rfl); (· simp [qed, hN, hsk, hnl, zac]); try simp only [qeb, hN, seval, hsk, hnl, zac]) | ((with_reducible apply zas); (· exact rfl); (· exact rfl); (· simp [qed, hN, hsk, hnl, zac]); try simp only [qeb, hN, seval, hsk, hnl, zac]) | ((with_reducible apply zat); (· exact rfl); (· exact rfl); (· simp [qed, hN, hsk, hnl, zac]); try simp only [qeb, hN, seval, hsk, hnl, zac])))
    refine zaa ?_
    refine hK3 _ _ ?_; try clear hK3 K3
    refine wp_cond_false (by simp [qed, hN]) ?_
    refine wp_skip ?_
    refine tail ?_ _ (by simp only [qea, hN, seval]) (by simp [zab, hD]) (by simp only [qea, hN, seval, h1]) (by simp only [qea, hN, seval, h2]) (by simp only [qea, hN, seval]) (by simp only [qea, hN, seval]) (by simp only [qea, hN, seval])
    obtain ⟨k, fr, to, nl, tg, df, of, sub⟩ := f
    simp only [Fld.kind, Fld.null, Fld.sub] at hst hnl ⊢
    subst hst
    rw [sF_eq]
    simp only [if_neg hnl]
    rfl
  ·have hsk : ((zaI f.kind : Int) == 10) = false := by
    cases hk : f.kind <;> rw [hk] at hst <;> first | rfl | exact absurd rfl hst
   (repeat (first | ((with_reducible refine zaw ?_ ?_ ?_ ?_); (· exact rfl); (· simp [qee, hN, hsk, zac] <;> omega); (· kernel_rfl); try simp only [qeb, hN, seval, hsk, zac]) | ((with_reducible refine qlS ?_ ?_ ?_); (· simp [qed, hN, hsk, zac]); (· kernel_rfl); try simp only [qeb, hN, seval, hsk, zac]) | ((with_reducible first | refine zaC ?_ ?_ ?_ | refine zaB ?_ ?_ ?_ | refine zaD ?_ ?_) <;> (first | (with_reducible refine zau ?_; try simp only [qeb, hN, seval, hsk, zac]) | (simp [qed, hN, hsk, zac] <;> omega))) | ((with_reducible refine zao ?_ ?_); (· simp [qed, hN, hsk, zac]); try simp only [qeb, hN, seval, hsk, zac]) | ((with_reducible refine zan ?_ ?_); (· simp [qed, hN, hsk, zac]); try simp only [qeb, hN, seval, hsk, zac]) | ((with_reducible apply zak); (· exact rfl); (· exact rfl); (· simp [qed, hN, hsk, zac]); try simp only [qeb, hN, seval, hsk, zac]) | ((with_reducible apply zas); (· exact rfl); (· exact rfl); (· simp [qed, hN, hsk, zac]); try simp only [qeb, hN, seval, hsk, zac]) | ((with_reducible apply zat); (· exact rfl); (· exact rfl); (· simp [qed, hN, hsk, zac]); try simp only [qeb, hN, seval, hsk, zac])))
   refine zaa ?_
   refine hK3 _ _ ?_; try clear hK3 K3
   refine wp_cond_false (by simp [qed, hN]) ?_
   refine wp_skip ?_
   refine tail ?_ _ (by simp only [qea, hN, seval]) (by simp [zab, hD]) (by simp only [qea, hN, seval, h1]) (by simp only [qea, hN, seval, h2]) (by simp only [qea, hN, seval]) (by simp only [qea, hN, seval]) (by simp only [qea, hN, seval])
   obtain ⟨k, fr, to, nl, tg, df, of, sub⟩ := f
   simp only [Fld.kind, Fld.null, Fld.sub] at hst hl ⊢
   rw [sF_eq]
   cases k <;> first | rfl | exact absurd rfl hst | exact absurd rfl hl
set_option maxHeartbeats 4000000
def bF (flex : Bool) (ver : Int) (f : Fld) (v : Tr) (i : Nat) : Bs := if decide (f.tag < 0) && f.has ver then sF flex ver f (v.th i) else []
def sLto (flex : Bool) (ver : Int) (fs : List Fld) (v : Tr) (i : Nat) : Bs := sL flex ver (fs.take i) v 0
theorem sL_app (flex : Bool) (ver : Int) : ∀ (fs gs : List Fld) (v : Tr) (i : Nat), sL flex ver (fs ++ gs) v i = sL flex ver fs v i ++ sL flex ver gs v (i + fs.length)
 | [], gs, v, i => by simp [sL]
 | f :: r, gs, v, i => by
  rw [List.cons_append, sL, sL, sL_app flex ver r gs v (i + 1), List.length_cons, List.append_assoc, show i + 1 + r.length = i + (r.length + 1) by omega]
theorem sLto_step (flex : Bool) (ver : Int) (fs : List Fld) (v : Tr) (i : Nat) (f : Fld) (h : fs[i]? = some f) : sLto flex ver fs v (i + 1) = sLto flex ver fs v i ++ bF flex ver f v i := by
 unfold sLto
 have hi := (List.getElem?_eq_some_iff.1 h).1
 rw [List.take_add_one, h, sL_app]
 simp only [Option.toList_some, sL, List.append_nil, List.length_take, Nat.zero_add, bF, Nat.min_eq_left (Nat.le_of_lt hi)]
theorem sLto_le (flex : Bool) (ver : Int) (fs : List Fld) (v : Tr) (i : Nat) : (sLto flex ver fs v i).length ≤ (sL flex ver fs v 0).length := by
 have h := sL_app flex ver (fs.take i) (fs.drop i) v 0
 rw [List.take_append_drop] at h
 rw [h, List.length_append]; unfold sLto; omega
theorem App.pre {e : TypeId} {w w1 w2 : World} {base : Nat} {v v' : Value} {bs : Bs} (c : Chg (fun _ => False) w w1) (h : App e w1 base v bs v' w2) : App e w base v bs v' w2 := by
 refine ⟨h.own, (c.mono fun _ _ h => h.elim).trans h.chg fun _ _ h => h, ?_⟩
 rcases h.blk with k | ⟨g, k1, k2⟩
 ·exact .inl k
 ·exact .inr ⟨g, k1, Nat.le_trans c.size k2⟩
theorem wl_uv {ops : Array Oper} {Q : Exit → Act → World → Prop} {a : Act} {w : World} {rest : List Oper} {d1 d2 x y : Nat} {ty1 ty2 : TypeId} {pos1 pos2 : String} {af1 af2 : Array Edge} {us : Array TypeId}
  {base : Nat} {v : Value} {bs : Bs} (n : Nat) (hn : n < 4294967296) (hx : get a x = .int .u64 n) (hy : get a y = v) (hd : d1 < a.tmps.size) (hyd : d1 ≠ y) (hown : Own eB w base v bs) (hl : bs.length ≤ LIM - 5) (hb : base ≤ w.heap.size)
  (h : ∀ u v' w', App eB w base v (bs ++ zbo n) v' w' → WL Tryz.prog ops Q rest ((a.put (some d1) u).put (some d2) v') w') :
  WL Tryz.prog ops Q (⟨some d1, .call { callee := .value (.func 37), args := #[.tmp x], argTypes := us }, ty1, pos1, af1, none⟩ :: ⟨some d2, .call { callee := .builtin .append, args := #[.tmp y, .tmp d1], argTypes := #[22, 22] }, ty2, pos2, af2, none⟩ :: rest) a w := by
 refine zaz (fun args w => Tryz.call37 args w) (by simp only [List.map_toArray, List.map_cons, List.map_nil, zaf, hx]; exact Uvarint_c n hn) ?_
 rintro u w1 ho
 obtain ⟨oa, cap, rfl, _, hbt⟩ := ho.1.bytes
 have hu := uvar_len n
 refine wl_append bT (bs' := zbo n) (oa := oa) (c := cap) (by rw [zaf, zae hyd, hy]) (by rw [zaf, zad hd]) (hown.chg ho.2 fun _ _ h => h) hbt (by unfold LIM at *; omega) (Nat.le_trans hb ho.2.size) ?_
 intro v' w' happ
 exact h _ v' w' (happ.pre ho.2)
theorem sT_app (flex : Bool) (ver : Int) : ∀ (fs gs : List Fld) (g : Nat) (v : Tr) (i : Nat), sT flex ver (fs ++ gs) g v i = ((sT flex ver fs g v i).1 + (sT flex ver gs g v (i + fs.length)).1, (sT flex ver fs g v i).2 ++ (sT flex ver gs g v (i + fs.length)).2)
 | [], gs, g, v, i => by simp [sT]
 | f :: r, gs, g, v, i => by
  rw [List.cons_append, sT, sT, sT_app flex ver r gs g v (i + 1), List.length_cons, show i + 1 + r.length = i + (r.length + 1) by omega]
  dsimp only
  split
  ·simp [List.append_assoc]; omega
  ·rfl
def tF (flex : Bool) (ver : Int) (f : Fld) (g : Nat) (v : Tr) (i : Nat) : Nat × Bs :=
 if decide (f.tag = (g : Int)) && !sUsual f (v.th i) then (1, zbo g ++ (zbo (sF flex ver f (v.th i)).length ++ sF flex ver f (v.th i))) else (0, [])
def sTto (flex : Bool) (ver : Int) (fs : List Fld) (g : Nat) (v : Tr) (i : Nat) : Nat × Bs := sT flex ver (fs.take i) g v 0
theorem sTto_step (flex : Bool) (ver : Int) (fs : List Fld) (g : Nat) (v : Tr) (i : Nat) (f : Fld) (h : fs[i]? = some f) :
  sTto flex ver fs g v (i + 1) = ((sTto flex ver fs g v i).1 + (tF flex ver f g v i).1, (sTto flex ver fs g v i).2 ++ (tF flex ver f g v i).2) := by
 unfold sTto
 have hi := (List.getElem?_eq_some_iff.1 h).1
 rw [List.take_add_one, h, sT_app]
 simp only [Option.toList_some, sT, List.length_take, Nat.zero_add, tF, Nat.min_eq_left (Nat.le_of_lt hi)]
 split <;> simp
theorem sTto_le (flex : Bool) (ver : Int) (fs : List Fld) (g : Nat) (v : Tr) (i : Nat) : (sTto flex ver fs g v i).1 ≤ (sT flex ver fs g v 0).1 ∧ (sTto flex ver fs g v i).2.length ≤ (sT flex ver fs g v 0).2.length := by
 have h := sT_app flex ver (fs.take i) (fs.drop i) g v 0
 rw [List.take_append_drop] at h
 rw [h]; simp only [List.length_append]; unfold sTto; omega
def sKto (flex : Bool) (ver : Int) (fs : List Fld) (v : Tr) (g : Nat) : Nat × Bs := sumTags ((List.range g).map fun g => sT flex ver fs g v 0)
theorem foldl_add (l : List (Nat × Bs)) : ∀ n : Nat, l.foldl (fun a x => a + x.1) n = n + l.foldl (fun a x => a + x.1) 0 := by
 induction l with
 | nil => intro n; simp
 | cons x r ih => intro n; simp only [List.foldl_cons, Nat.zero_add]; rw [ih (n + x.1), ih x.1]; omega
theorem sumTags_app (l m : List (Nat × Bs)) : sumTags (l ++ m) = ((sumTags l).1 + (sumTags m).1, (sumTags l).2 ++ (sumTags m).2) := by
 unfold sumTags
 simp only [List.foldl_append, List.flatMap_append]
 rw [foldl_add]
theorem sKto_step (flex : Bool) (ver : Int) (fs : List Fld) (v : Tr) (g : Nat) : sKto flex ver fs v (g + 1) = ((sKto flex ver fs v g).1 + (sT flex ver fs g v 0).1, (sKto flex ver fs v g).2 ++ (sT flex ver fs g v 0).2) := by
 unfold sKto
 rw [List.range_succ, List.map_append, sumTags_app]
 simp [sumTags]
theorem sKto_le (flex : Bool) (ver : Int) (fs : List Fld) (v : Tr) (g n : Nat) (h : g ≤ n) : (sKto flex ver fs v g).1 ≤ (sKto flex ver fs v n).1 ∧ (sKto flex ver fs v g).2.length ≤ (sKto flex ver fs v n).2.length := by
 have e : List.range n = List.range g ++ (List.range (n - g)).map (g + ·) := by rw [← List.range_add]; congr 1; omega
 unfold sKto
 rw [e, List.map_append, sumTags_app]
 simp only [List.length_append]; omega
theorem uvar_pos (n : Nat) : 1 ≤ (zbo n).length := by
 unfold zbo za2; split <;> simp
theorem sT_count (flex : Bool) (ver : Int) : ∀ (fs : List Fld) (g : Nat) (v : Tr) (i : Nat), (sT flex ver fs g v i).1 ≤ (sT flex ver fs g v i).2.length
 | [], g, v, i => by simp [sT]
 | f :: r, g, v, i => by
  have := sT_count flex ver r g v (i + 1)
  rw [sT]
  split
  ·have := uvar_pos g
   simp only [List.length_append]; omega
  ·exact this
theorem sKto_count (flex : Bool) (ver : Int) (fs : List Fld) (v : Tr) : ∀ g, (sKto flex ver fs v g).1 ≤ (sKto flex ver fs v g).2.length
 | 0 => by simp [sKto, sumTags]
 | g + 1 => by
  rw [sKto_step]
  have := sKto_count flex ver fs v g
  have := sT_count flex ver fs g v 0
  simp only [List.length_append]; omega
def SubC (fs : List Fld) : Prop := ∀ f ∈ fs, f.of ≠ .list ∧ ((f.kind = .struct ∨ (f.kind = .list ∧ f.of = .struct)) → PartC f.sub)
theorem unkIns_len (x : Nat × Bs) : ∀ l, (unkIns x l).length ≤ l.length + 1
 | [] => by simp [unkIns]
 | y :: r => by
  have := unkIns_len x r
  unfold unkIns
  split
  ·simp only [List.length_cons]; omega
  ·split <;> simp only [List.length_cons] <;> omega
theorem sUnkFrom_len (k : Nat) : ∀ (l acc : za5), (zbm k l acc).length ≤ acc.length + l.length
 | [], acc => by simp [zbm]
 | x :: r, acc => by
  unfold zbm
  split
  ·have := sUnkFrom_len k r acc
   simp only [List.length_cons]; omega
  ·have := sUnkFrom_len k r (unkIns x acc)
   have := unkIns_len x acc
   simp only [List.length_cons]; omega
theorem sUnknown_len (fs : List Fld) (t : za5) : (zba fs t).length ≤ zbu := by
 have := sUnkFrom_len (zbn fs 0) (t.take zbu) []
 unfold zba
 simp only [List.length_nil, List.length_take] at this
 omega
theorem sUnkEach_len : ∀ (t : za5), 2 * t.length ≤ (sUnkEach t).length
 | [] => by simp
 | x :: r => by
  have := sUnkEach_len r
  have h1 := uvar_pos x.1
  have h2 := uvar_pos (x.2.take zbu).length
  unfold sUnkEach at this ⊢
  simp only [List.flatMap_cons, List.length_append, List.length_cons]
  omega
theorem part_of (fs : List Fld) (hlen : fs.length ≤ 1073741824) (hlo : LOK fs) (hsubc : SubC fs) : PartC fs := by
 intro ver flex v hvo hlim w G G' oa cap ts hfs hv
 refine zaq Tryz.func18 rfl rfl Tryz.ntmps18 (by simp) ?_
 intro a hN hD ha
 have h0 : get a 0 = .slice oa fs.length cap := ha 0 _ rfl
 have h1 : get a 1 = .int .i64 ver := ha 1 _ rfl
 have h2 : get a 2 = .bool flex := ha 2 _ rfl
 have h3 : get a 3 = zaZ ts := ha 3 _ rfl
 have hlL : (sL flex ver fs v 0).length ≤ SLIM := by
  unfold sPart at hlim; rw [List.length_append] at hlim; omega
 refine qsr fun K hK => ?_
 refine wl_boxA (l := ts) (by simp [qed, hN, h3]) fun w1 hc hb hs => ?_
 (repeat ((first | ((with_reducible refine zaw ?_ ?_ ?_ ?_); (· rfl); (· simp [qee, hN] <;> omega); (· kernel_rfl)) | ((with_reducible refine qlS ?_ ?_ ?_); (· simp [qed, hN]); (· kernel_rfl))); try simp only [qeb, hN, seval]))
 refine zaa (hK _ _ ?_); clear hK K
 have e5 : (ts.drop 0).take 5 = ts := by rw [List.drop_zero, List.take_of_length_le (by rw [hv.len]; omega)]
 refine qsr fun K hK => ?_; (repeat ((first | ((with_reducible refine zaw ?_ ?_ ?_ ?_); (· rfl); (· simp [qee, hN] <;> omega); (· kernel_rfl)) | ((with_reducible refine qlS ?_ ?_ ?_); (· simp [qed, hN]); (· kernel_rfl))); try simp only [qeb, hN, seval])); refine zaa (hK _ _ ?_); clear hK K
 refine qsr fun K hK => ?_; (repeat ((first | ((with_reducible refine zaw ?_ ?_ ?_ ?_); (· rfl); (· simp [qee, hN] <;> omega); (· kernel_rfl)) | ((with_reducible refine qlS ?_ ?_ ?_); (· simp [qed, hN]); (· kernel_rfl))); try simp only [qeb, hN, seval])); refine zaa (hK _ _ ?_); clear hK K
 refine qsk fun K0 hK0 => ?_; refine qsr fun K hK => ?_
 (repeat ((first | ((with_reducible refine zaw ?_ ?_ ?_ ?_); (· rfl); (· simp [qee, hN, h0] <;> omega); (· kernel_rfl)) | ((with_reducible refine qlS ?_ ?_ ?_); (· simp [qed, hN, h0]); (· kernel_rfl))); try simp only [qeb, hN, seval, h0]))
 refine zaa (hK _ _ ?_); clear hK K
 refine wp_range (n := fs.length) (fun i a' w' => a'.tmps.size = 132 ∧ a'.defers = [] ∧ get a' 0 = .slice oa fs.length cap ∧ get a' 1 = .int .i64 ver ∧ get a' 2 = .bool flex ∧ get a' 7 = .pointer (some ⟨w.heap.size, 0, none⟩) ∧ get a' 10 = .slice none 0 0 ∧ get a' 11 = .int .i64 0 ∧
   get a' 21 = .slice oa fs.length cap ∧ Own eB w' w1.heap.size (get a' 9) (sLto flex ver fs v i) ∧ Chg (fun k => w1.heap.size ≤ k) w1 w') 132 (by omega)
  (by simp only [qea, hN, seval]) (by simp only [qea, hN, seval]) ⟨by simp only [qea, hN, seval], by simp [zab, hD], by simp only [qea, hN, seval, h0], by simp only [qea, hN, seval, h1], by simp only [qea, hN, seval, h2], by simp only [qea, hN, seval], by simp only [qea, hN, seval], by simp only [qea, hN, seval], by simp only [qea, hN, seval, h0], by simp only [qea, hN, seval]; exact Own.nil _ _ _, Chg.refl _ _⟩ ?_ ?_ (by decide) ?_ ?_
 ·rintro i a w ⟨h, _⟩; exact h
 ·rintro i a w t v ht ⟨k1, k2, k3, k4, k5, k6, k7, k8, k9, k10⟩
  rcases ht with rfl | rfl | rfl <;> exact ⟨by rw [zag]; exact k1, by rw [zab]; exact k2, by rw [zae (by decide)]; exact k3, by rw [zae (by decide)]; exact k4, by rw [zae (by decide)]; exact k5, by rw [zae (by decide)]; exact k6, by rw [zae (by decide)]; exact k7, by rw [zae (by decide)]; exact k8, by rw [zae (by decide)]; exact k9, by rw [zae (by decide)]; exact k10⟩
 ·clear hN hD h0 h1 h2 h3
  rintro i a1 w2 hi ⟨hN, hD, h0, h1, h2, h7, h10, h11, h21, hown, hch⟩ g22 g23
  have hcw : Chg (fun _ => False) w w2 := hc.trans hch fun n hn h => by have := hc.size; omega
  have hf : fs[i]? = some fs[i] := by simp [hi]
  have hmem : fs[i] ∈ fs := List.getElem_mem hi
  obtain ⟨b, fc, T, rfl, _, hG, hbk, hfc, hl⟩ := hfs.get hf
  have hstep := sLto_step flex ver fs v i _ hf
  have hle := sLto_le flex ver fs v (i + 1)
  rw [hstep, List.length_append] at hle
  generalize fs[i] = f at hf hmem hfc hstep hle
  obtain ⟨_, c0, c1, c2, c3, c4, c5, c6, _⟩ := hfc.cells
  have hbk1 := hbk.chg hcw (fun h => h)
  refine qsr fun K hK => ?_
  (repeat ((first | ((with_reducible refine zaw ?_ ?_ ?_ ?_); (· rfl); (· simp [qee, hN, g23] <;> omega); (· kernel_rfl)) | ((with_reducible refine qlS ?_ ?_ ?_); (· simp [qed, hN, g23]); (· kernel_rfl))); try simp only [qeb, hN, seval, g23]))
  refine zaT (b := b) (o := 0) (k := .i64) (i := i) (n := 8) (len := fs.length) (cap := cap) (by kernel_rfl) (by simp [qed, hN, h21]) (by simp [qed, hN, g23]) hi ?_
  refine za7 (b := b) (o := 0 + i * 8) (n := 8) (by kernel_rfl) (by kernel_rfl) (by simp [qed, hN]) hbk1 (by omega) ?_
  rw [Nat.zero_add]
  refine wl_allocA (z := zaZ zFld) (fun w => Tryz.zeroValue48 w) fun w3 hc3 hb3 hs3 => ?_
  (repeat ((first | ((with_reducible refine zaw ?_ ?_ ?_ ?_); (· rfl); (· simp [qee, hN] <;> omega); (· kernel_rfl)) | ((with_reducible refine qlS ?_ ?_ ?_); (· simp [qed, hN]); (· kernel_rfl))); try simp only [qeb, hN, seval]))
  refine zbh (b := w2.heap.size) (n := 8) (l' := ((fc.drop (i * 8)).take 8)) (by kernel_rfl) (by simp [qed, hN]) (by simp [qed, hN]; rfl) hb3 hfc.len hfc.one rfl fun w4 hb4 hc4 => ?_
  have hch4 : Chg (fun _ => False) w2 w4 := hc3.trans hc4 fun n hn h => by omega
  have hcw4 : Chg (fun _ => False) w w4 := hcw.trans hch4 fun _ _ h => h
  have hown4 := hown.chg hch4 fun _ _ h => h
  refine zaa (hK _ _ ?_); clear hK K
  refine qsr fun K1 hK1 => ?_
  with_reducible refine zay (b := w2.heap.size) (off := 4) (n := 1) ?_ ?_ ?_; (· kernel_rfl); (· simp [qed, hN])
  with_reducible refine zaK (b := w2.heap.size) (o := 4) ?_ ?_ hb4 c4 ?_; (· kernel_rfl); (· simp [qed, hN])
  have e8 : (((fc.drop (i * 8)).take 8).drop 0).take 8 = (fc.drop (i * 8)).take 8 := by rw [List.drop_zero, List.take_of_length_le (by rw [hfc.len]; omega)]
  have skip : ∀ (a' : Act) (w' : World), bF flex ver f v i = [] → a'.tmps.size = 132 → a'.defers = [] → get a' 0 = .slice (some ⟨b, 0, none⟩) fs.length cap → get a' 1 = .int .i64 ver → get a' 2 = .bool flex → get a' 7 = .pointer (some ⟨w.heap.size, 0, none⟩) →
    get a' 10 = .slice none 0 0 → get a' 11 = .int .i64 0 → get a' 21 = .slice (some ⟨b, 0, none⟩) fs.length cap → get a' 9 = get a1 9 → get a' 22 = .int .i64 fs.length → get a' 23 = .int .i64 i → Chg (fun _ => False) w4 w' → get a' 35 = .bool false → K1 a' w' := by
   clear hN hD
   intro a' w' he hN hD j0 j1 j2 j7 j10 j11 j21 j9 j22 j23 hcx j35
   refine hK1 _ _ ?_; try clear hK1 K1
   refine wp_cond_false (by simp [qed, hN, j35]) ?_
   refine wp_skip ⟨⟨hN, hD, j0, j1, j2, j7, j10, j11, j21, ?_, (hch.trans hch4 fun _ _ h => h.elim).trans hcx fun _ _ h => h.elim⟩, j22, j23⟩
   rw [j9, hstep, he, List.append_nil]
   exact hown4.chg hcx fun _ _ h => h
  by_cases htg : f.tag < 0
  ·(repeat (first | ((with_reducible refine zaw ?_ ?_ ?_ ?_); (· exact rfl); (· simp [qee, hN, htg, zac] <;> omega); (· kernel_rfl); try simp only [qeb, hN, seval, htg, zac]) | ((with_reducible refine qlS ?_ ?_ ?_); (· simp [qed, hN, htg, zac]); (· kernel_rfl); try simp only [qeb, hN, seval, htg, zac]) | ((with_reducible first | refine zaC ?_ ?_ ?_ | refine zaB ?_ ?_ ?_ | refine zaD ?_ ?_) <;> (first | (with_reducible refine zau ?_; try simp only [qeb, hN, seval, htg, zac]) | (simp [qed, hN, htg, zac] <;> omega))) | ((with_reducible refine zao ?_ ?_); (· simp [qed, hN, htg, zac]); try simp only [qeb, hN, seval, htg, zac]) | ((with_reducible refine zan ?_ ?_); (· simp [qed, hN, htg, zac]); try simp only [qeb, hN, seval, htg, zac]) | ((with_reducible apply zak); (· exact rfl); (· exact rfl); (· simp [qed, hN, htg, zac]); try simp only [qeb, hN, seval, htg, zac]) | ((with_reducible apply zas); (· exact rfl); (· exact rfl); (· simp [qed, hN, htg, zac]); try simp only [qeb, hN, seval, htg, zac]) | ((with_reducible apply zat); (· exact rfl); (· exact rfl); (· simp [qed, hN, htg, zac]); try simp only [qeb, hN, seval, htg, zac])))
   refine za7 (b := w2.heap.size) (o := 0) (n := 8) (by kernel_rfl) (by kernel_rfl) (by simp [qed, hN]) hb4 (by rw [hfc.len]; omega) ?_
   rw [e8]
   (repeat (first | ((with_reducible refine zaw ?_ ?_ ?_ ?_); (· exact rfl); (· simp [qee, hN, h1, zac] <;> omega); (· kernel_rfl); try simp only [qeb, hN, seval, h1, zac]) | ((with_reducible refine qlS ?_ ?_ ?_); (· simp [qed, hN, h1, zac]); (· kernel_rfl); try simp only [qeb, hN, seval, h1, zac]) | ((with_reducible first | refine zaC ?_ ?_ ?_ | refine zaB ?_ ?_ ?_ | refine zaD ?_ ?_) <;> (first | (with_reducible refine zau ?_; try simp only [qeb, hN, seval, h1, zac]) | (simp [qed, hN, h1, zac] <;> omega))) | ((with_reducible refine zao ?_ ?_); (· simp [qed, hN, h1, zac]); try simp only [qeb, hN, seval, h1, zac]) | ((with_reducible refine zan ?_ ?_); (· simp [qed, hN, h1, zac]); try simp only [qeb, hN, seval, h1, zac]) | ((with_reducible apply zak); (· exact rfl); (· exact rfl); (· simp [qed, hN, h1, zac]); try simp only [qeb, hN, seval, h1, zac]) | ((with_reducible apply zas); (· exact rfl); (· exact rfl); (· simp [qed, hN, h1, zac]); try simp only [qeb, hN, seval, h1, zac]) | ((with_reducible apply zat); (· exact rfl); (· exact rfl); (· simp [qed, hN, h1, zac]); try simp only [qeb, hN, seval, h1, zac])))
   refine zaz (fun args w => Tryz.call32 args w) (by simp [qea, hN, seval, h1]; exact has_c f ver (hfc.stay (zbl.none hcw4))) ?_
   rintro _ w5 ⟨rfl, hc5⟩
   cases hhas : f.has ver with
   | false =>
    (repeat (first | ((with_reducible refine zaw ?_ ?_ ?_ ?_); (· exact rfl); (· simp [qee, hN, hhas, zac] <;> omega); (· kernel_rfl); try simp only [qeb, hN, seval, hhas, zac]) | ((with_reducible refine qlS ?_ ?_ ?_); (· simp [qed, hN, hhas, zac]); (· kernel_rfl); try simp only [qeb, hN, seval, hhas, zac]) | ((with_reducible first | refine zaC ?_ ?_ ?_ | refine zaB ?_ ?_ ?_ | refine zaD ?_ ?_) <;> (first | (with_reducible refine zau ?_; try simp only [qeb, hN, seval, hhas, zac]) | (simp [qed, hN, hhas, zac] <;> omega))) | ((with_reducible refine zao ?_ ?_); (· simp [qed, hN, hhas, zac]); try simp only [qeb, hN, seval, hhas, zac]) | ((with_reducible refine zan ?_ ?_); (· simp [qed, hN, hhas, zac]); try simp only [qeb, hN, seval, hhas, zac]) | ((with_reducible apply zak); (· exact rfl); (· exact rfl); (· simp [qed, hN, hhas, zac]); try simp only [qeb, hN, seval, hhas, zac]) | ((with_reducible apply zas); (· exact rfl); (· exact rfl); (· simp [qed, hN, hhas, zac]); try simp only [qeb, hN, seval, hhas, zac]) | ((with_reducible apply zat); (· exact rfl); (· exact rfl); (· simp [qed, hN, hhas, zac]); try simp only [qeb, hN, seval, hhas, zac])))
    refine zaa ?_
    refine skip _ _ ?_ (by simp only [qea, hN, seval]) (by simp [zab, hD]) (by simp only [qea, hN, seval, h0]) (by simp only [qea, hN, seval, h1]) (by simp only [qea, hN, seval, h2]) (by simp only [qea, hN, seval, h7]) (by simp only [qea, hN, seval, h10]) (by simp only [qea, hN, seval, h11]) (by simp only [qea, hN, seval, h21]) (by simp only [qea, hN, seval]) (by simp only [qea, hN, seval, g22]) (by simp only [qea, hN, seval, g23]) hc5 (by simp only [qea, hN, seval, hhas])
    simp [bF, hhas]
   | true =>
    have hbF : bF flex ver f v i = sF flex ver f (v.th i) := by simp [bF, htg, hhas]
    rw [hbF] at hstep hle
    (repeat (first | ((with_reducible refine zaw ?_ ?_ ?_ ?_); (· exact rfl); (· simp [qee, hN, hhas, zac] <;> omega); (· kernel_rfl); try simp only [qeb, hN, seval, hhas, zac]) | ((with_reducible refine qlS ?_ ?_ ?_); (· simp [qed, hN, hhas, zac]); (· kernel_rfl); try simp only [qeb, hN, seval, hhas, zac]) | ((with_reducible first | refine zaC ?_ ?_ ?_ | refine zaB ?_ ?_ ?_ | refine zaD ?_ ?_) <;> (first | (with_reducible refine zau ?_; try simp only [qeb, hN, seval, hhas, zac]) | (simp [qed, hN, hhas, zac] <;> omega))) | ((with_reducible refine zao ?_ ?_); (· simp [qed, hN, hhas, zac]); try simp only [qeb, hN, seval, hhas, zac]) | ((with_reducible refine zan ?_ ?_); (· simp [qed, hN, hhas, zac]); try simp only [qeb, hN, seval, hhas, zac]) | ((with_reducible apply zak); (· exact rfl); (· exact rfl); (· simp [qed, hN, hhas, zac]); try simp only [qeb, hN, seval, hhas, zac]) | ((with_reducible apply zas); (· exact rfl); (· exact rfl); (· simp [qed, hN, hhas, zac]); try simp only [qeb, hN, seval, hhas, zac]) | ((with_reducible apply zat); (· exact rfl); (· exact rfl); (· simp [qed, hN, hhas, zac]); try simp only [qeb, hN, seval, hhas, zac])))
    refine zaa ?_
    refine hK1 _ _ ?_; try clear hK1 K1
    refine wp_cond_true (by simp [qed, hN, hhas]) ?_
    have hcw5 : Chg (fun _ => False) w w5 := hcw4.trans hc5 fun _ _ h => h
    have hown5 := hown4.chg hc5 fun _ _ h => h
    have hb5 := hb4.chg hc5 fun h => h
    have hbx5 : Blk w5 w.heap.size ts 26 := (hb.chg hch (by have := hb.lt; omega)).chg (hch4.trans hc5 fun _ _ h => h) fun h => h
    have hlt := hown.lt
    have hg13 : ∀ k, (get a1 9).ownBlock = some k → k ≠ w2.heap.size ∧ k ≠ w.heap.size := fun k hk => by have := hlt k hk; have := hb.lt; omega
    unfold SLIM at hlL
    refine wp_sched (fun w' => Chg (fun k => (get a1 9).ownBlock = some k) w5 w') [(true, 0), (true, 1), (true, 2), (true, 3), (true, 4), (true, 5), (false, 6), (false, 7), (false, 8), (true, 9)] zaR (by kernel_rfl) (by kernel_rfl) (Chg.drew _ _) ?_
    refine zbf rfl ?_
    simp only [qea, hN, seval]
    refine ws_loadAgg (b := w2.heap.size) (o := 0) (n := 8) (by kernel_rfl) (by kernel_rfl) rfl (by simp [qed, hN]) (fun w' c => hb5.chg c (fun h => (hg13 _ h).1 rfl)) (by rw [hfc.len]; omega) ?_
    rw [e8]
    refine zbf rfl ?_
    refine zbf rfl ?_
    simp only [qea, hN, seval, h1, h2]
    refine ws_loadAgg (b := w.heap.size) (o := 0) (n := 5) (by kernel_rfl) (by kernel_rfl) rfl (by simp [qed, hN, h7]) (fun w' c => hbx5.chg c (fun h => (hg13 _ h).2 rfl)) (by rw [hv.len]; omega) ?_
    rw [e5]
    refine zbf rfl ?_
    simp only [qea, hN, seval]
    have hcd : Chg (fun _ => False) w w5.drew := hcw5.trans (Chg.drew _ _) fun _ _ h => h
    refine ws_call (fun args w => Tryz.call34 args w) rfl (by simp [qea, hN, seval]; exact at_c v i (hv.stay (zbl.none hcd))) ?_
    rintro _ w6 ⟨⟨rs, rfl, hrs⟩, hc6⟩
    have hk6 : Chg (fun _ => False) w5 w6 := (Chg.drew _ _).trans hc6 fun _ _ h => h
    refine ⟨hk6.mono fun _ _ h => h.elim, ?_⟩
    refine ws_call (fun args w => Tryz.call33 args w) rfl (by simp [qea, hN, seval]; exact field_c f ver flex (v.th i) (hsubc f hmem).2 (hsubc f hmem).1 (hvo.th tagOK_nil i) (by unfold SLIM; omega) (hfc.stay (zbl.none (hcw5.trans hk6 fun _ _ h => h))) hrs) ?_
    rintro v7 w7 ho7
    have hk7 : Chg (fun _ => False) w5 w7 := hk6.trans ho7.2 fun _ _ h => h
    refine ⟨hk7.mono fun _ _ h => h.elim, ?_⟩
    obtain ⟨oa7, cap7, rfl, _, hb7⟩ := ho7.1.bytes
    have kown := hown5.chg hk7 fun _ _ h => h
    have hsz : w1.heap.size ≤ w7.heap.size := Nat.le_trans (Nat.le_trans hch.size hch4.size) (Nat.le_trans hc5.size hk7.size)
    refine ws_step rfl fun K' hK' => wl_append bT (bs' := sF flex ver f (v.th i)) (oa := oa7) (c := cap7) (by simp only [qea, hN, seval]) (by simp only [qea, hN, seval]) kown hb7 (by unfold LIM; omega) hsz ?_
    intro v8 w8 happ
    have hk8 : Chg (fun k => (get a1 9).ownBlock = some k) w5 w8 := (hk7.mono fun _ _ h => h.elim).trans happ.chg fun _ _ h => h
    refine zaa (hK' _ _ hk8 ?_)
    refine ws_assign rfl ?_
    simp only [qea, hN, seval]
    refine ws_nil ⟨⟨by simp only [qea, hN, seval], by simp [zab, hD], by simp only [qea, hN, seval, h0], by simp only [qea, hN, seval, h1], by simp only [qea, hN, seval, h2], by simp only [qea, hN, seval, h7], by simp only [qea, hN, seval, h10], by simp only [qea, hN, seval, h11], by simp only [qea, hN, seval, h21], ?_, ?_⟩, by simp only [qea, hN, seval, g22], by simp only [qea, hN, seval, g23]⟩
    ·simp only [qea, hN, seval]
     rw [hstep]
     exact happ.own
    ·exact ((hch.trans hch4 fun _ _ h => h.elim).trans hc5 fun _ _ h => h.elim).trans hk8 fun n hn hk => (hlt n hk).1
  ·(repeat (first | ((with_reducible refine zaw ?_ ?_ ?_ ?_); (· exact rfl); (· simp [qee, hN, htg, zac] <;> omega); (· kernel_rfl); try simp only [qeb, hN, seval, htg, zac]) | ((with_reducible refine qlS ?_ ?_ ?_); (· simp [qed, hN, htg, zac]); (· kernel_rfl); try simp only [qeb, hN, seval, htg, zac]) | ((with_reducible first | refine zaC ?_ ?_ ?_ | refine zaB ?_ ?_ ?_ | refine zaD ?_ ?_) <;> (first | (with_reducible refine zau ?_; try simp only [qeb, hN, seval, htg, zac]) | (simp [qed, hN, htg, zac] <;> omega))) | ((with_reducible refine zao ?_ ?_); (· simp [qed, hN, htg, zac]); try simp only [qeb, hN, seval, htg, zac]) | ((with_reducible refine zan ?_ ?_); (· simp [qed, hN, htg, zac]); try simp only [qeb, hN, seval, htg, zac]) | ((with_reducible apply zak); (· exact rfl); (· exact rfl); (· simp [qed, hN, htg, zac]); try simp only [qeb, hN, seval, htg, zac]) | ((with_reducible apply zas); (· exact rfl); (· exact rfl); (· simp [qed, hN, htg, zac]); try simp only [qeb, hN, seval, htg, zac]) | ((with_reducible apply zat); (· exact rfl); (· exact rfl); (· simp [qed, hN, htg, zac]); try simp only [qeb, hN, seval, htg, zac])))
   refine zaa ?_
   refine skip _ _ ?_ (by simp only [qea, hN, seval]) (by simp [zab, hD]) (by simp only [qea, hN, seval, h0]) (by simp only [qea, hN, seval, h1]) (by simp only [qea, hN, seval, h2]) (by simp only [qea, hN, seval, h7]) (by simp only [qea, hN, seval, h10]) (by simp only [qea, hN, seval, h11]) (by simp only [qea, hN, seval, h21]) (by simp only [qea, hN, seval]) (by simp only [qea, hN, seval, g22]) (by simp only [qea, hN, seval, g23]) (Chg.refl _ _) (by simp only [qea, hN, seval])
   simp [bF, htg]
 ·clear hN hD h0 h1 h2 h3
  rintro a1 w2 ⟨hN, hD, h0, h1, h2, h7, h10, h11, h21, hown, hch⟩
  have hcw : Chg (fun _ => False) w w2 := hc.trans hch fun n hn h => by have := hc.size; omega
  unfold sLto at hown
  rw [List.take_length] at hown
  refine hK0 _ _ ?_; try clear hK0 K0
  refine qsk fun K0 hK0 => ?_; refine qsr fun K1 hK1 => ?_
  (repeat ((first | ((with_reducible refine zaw ?_ ?_ ?_ ?_); (· rfl); (· simp [qee, hN, h2] <;> omega); (· kernel_rfl)) | ((with_reducible refine qlS ?_ ?_ ?_); (· simp [qed, hN, h2]); (· kernel_rfl))); try simp only [qeb, hN, seval, h2]))
  refine zaa ?_
  refine hK1 _ _ ?_; try clear hK1 K1
  cases flex with
  | false =>
   refine wp_cond_true (by simp [qed, hN]) ?_
   (repeat (first | (with_reducible refine wp_seq_k (fun K hK => ?_)) | (with_reducible refine wp_block ?_) | ((with_reducible refine zax ?_); (repeat (first | ((with_reducible refine zaw ?_ ?_ ?_ ?_); (· exact rfl); (· simp [qee, hN, zac] <;> omega); (· kernel_rfl); try simp only [qeb, hN, seval, zac]) | ((with_reducible refine qlS ?_ ?_ ?_); (· simp [qed, hN, zac]); (· kernel_rfl); try simp only [qeb, hN, seval, zac]) | ((with_reducible first | refine zaC ?_ ?_ ?_ | refine zaB ?_ ?_ ?_ | refine zaD ?_ ?_) <;> (first | (with_reducible refine zau ?_; try simp only [qeb, hN, seval, zac]) | (simp [qed, hN, zac] <;> omega))) | ((with_reducible refine zao ?_ ?_); (· simp [qed, hN, zac]); try simp only [qeb, hN, seval, zac]) | ((with_reducible refine zan ?_ ?_); (· simp [qed, hN, zac]); try simp only [qeb, hN, seval, zac]) | ((with_reducible apply zak); (· exact rfl); (· exact rfl); (· simp [qed, hN, zac]); try simp only [qeb, hN, seval, zac]) | ((with_reducible apply zas); (· exact rfl); (· exact rfl); (· simp [qed, hN, zac]); try simp only [qeb, hN, seval, zac]) | ((with_reducible apply zat); (· exact rfl); (· exact rfl); (· simp [qed, hN, zac]); try simp only [qeb, hN, seval, zac]))); (refine zaa ?_)) | ((with_reducible refine wp_cond_true ?_ ?_); (· simp [qed, hN])) | ((with_reducible refine wp_cond_false ?_ ?_); (· simp [qed, hN])) | (with_reducible refine wp_skip ?_) | (refine hK _ _ ?_; clear hK K)))
   refine wp_ret ⟨by simp [zab, hD], ?_⟩; simp only [qea, hN, seval]
   unfold sPart
   simp only [Bool.false_eq_true, if_false, List.append_nil]
   exact ⟨hown.mono hc.size, hcw⟩
  | true =>
  refine wp_cond_false (by simp [qed, hN]) ?_
  refine wp_skip ?_
  refine hK0 _ _ ?_; try clear hK0 K0
  unfold sPart sTags at hlim
  simp only [if_true, List.length_append] at hlim
  refine qsk fun K0 hK0 => ?_; refine qsr fun K hK => ?_
  (repeat ((first | ((with_reducible refine zaw ?_ ?_ ?_ ?_); (· rfl); (· simp [qee, hN, h0] <;> omega); (· kernel_rfl)) | ((with_reducible refine qlS ?_ ?_ ?_); (· simp [qed, hN, h0]); (· kernel_rfl))); try simp only [qeb, hN, seval, h0]))
  refine zaz (fun args w => Tryz.call35 args w) (by simp [qea, hN, seval]; exact known_c fs hlen hlo.small (hfs.stay (zbl.none hcw))) ?_
  rintro _ w3 ⟨rfl, hkn, hc3⟩
  (repeat ((first | ((with_reducible refine zaw ?_ ?_ ?_ ?_); (· rfl); (· simp [qee, hN] <;> omega); (· kernel_rfl)) | ((with_reducible refine qlS ?_ ?_ ?_); (· simp [qed, hN]); (· kernel_rfl))); try simp only [qeb, hN, seval]))
  have e3 : IntKind.i64.wrap (zbn fs 0 : Int) = (zbn fs 0 : Int) := zbi _ (by omega)
  rw [e3]
  refine zaa (hK _ _ ?_); clear hK K
  have hcw3 : Chg (fun _ => False) w w3 := hcw.trans hc3 fun _ _ h => h
  have hown3 := hown.chg hc3 fun _ _ h => h
  have hbx3 : Blk w3 w.heap.size ts 26 := (hb.chg hch (by have := hb.lt; omega)).chg hc3 fun h => h
  have hlt9 := hown3.lt
  generalize hkt : sumTags ((List.range (zbn fs 0)).map fun g => sT true ver fs g v 0) = kt at hlim
  have hktb : ∀ g, g ≤ zbn fs 0 → (sKto true ver fs v g).1 ≤ kt.1 ∧ (sKto true ver fs v g).2.length ≤ kt.2.length := fun g hg => by rw [← hkt]; exact sKto_le true ver fs v g _ hg
  have hkt1 : kt.1 ≤ kt.2.length := by rw [← hkt]; exact sKto_count true ver fs v _
  unfold SLIM at hlim
  refine wp_range (n := zbn fs 0) (fun g a' w' => a'.tmps.size = 132 ∧ a'.defers = [] ∧ get a' 0 = .slice oa fs.length cap ∧ get a' 1 = .int .i64 ver ∧ get a' 2 = .bool true ∧ get a' 7 = .pointer (some ⟨w.heap.size, 0, none⟩) ∧ get a' 9 = get a1 9 ∧
    get a' 11 = .int .i64 (sKto true ver fs v g).1 ∧ Own eB w' w3.heap.size (get a' 10) (sKto true ver fs v g).2 ∧ Chg (fun k => w3.heap.size ≤ k) w3 w') 132 (by omega)
   (by simp only [qea, hN, seval]) (by simp only [qea, hN, seval]) ⟨by simp only [qea, hN, seval], by simp [zab, hD], by simp only [qea, hN, seval, h0], by simp only [qea, hN, seval, h1], by simp only [qea, hN, seval, h2], by simp only [qea, hN, seval, h7], by simp only [qea, hN, seval], by simp only [qea, hN, seval, h11] <;> rfl, by simp only [qea, hN, seval, h10]; exact Own.nil _ _ _, Chg.refl _ _⟩ ?_ ?_ (by decide) ?_ ?_
  ·rintro i a w ⟨h, _⟩; exact h
  ·rintro i a w t v ht ⟨k1, k2, k3, k4, k5, k6, k7, k8, k9⟩
   rcases ht with rfl | rfl | rfl <;> exact ⟨by rw [zag]; exact k1, by rw [zab]; exact k2, by rw [zae (by decide)]; exact k3, by rw [zae (by decide)]; exact k4, by rw [zae (by decide)]; exact k5, by rw [zae (by decide)]; exact k6, by rw [zae (by decide)]; exact k7, by rw [zae (by decide)]; exact k8, by rw [zae (by decide)]; exact k9⟩
  ·clear hN hD h0 h1 h2 h7 h10 h11 h21
   rintro g a2 w4 hg ⟨hN, hD, h0, h1, h2, h7, h9, h11, hown4, hch4⟩ g51 g52
   have hgs := sKto_step true ver fs v g
   have hgl := hktb (g + 1) hg
   rw [hgs] at hgl
   simp only [List.length_append] at hgl
   refine qsr fun K hK => ?_; (repeat ((first | ((with_reducible refine zaw ?_ ?_ ?_ ?_); (· rfl); (· simp [qee, hN, g52] <;> omega); (· kernel_rfl)) | ((with_reducible refine qlS ?_ ?_ ?_); (· simp [qed, hN, g52]); (· kernel_rfl))); try simp only [qeb, hN, seval, g52])); refine zaa (hK _ _ ?_); clear hK K
   refine qsr fun K hK => ?_; (repeat ((first | ((with_reducible refine zaw ?_ ?_ ?_ ?_); (· rfl); (· simp [qee, hN, h0] <;> omega); (· kernel_rfl)) | ((with_reducible refine qlS ?_ ?_ ?_); (· simp [qed, hN, h0]); (· kernel_rfl))); try simp only [qeb, hN, seval, h0])); refine zaa (hK _ _ ?_); clear hK K
   have hb10 := hown4.lt
   refine wp_range (n := fs.length) (fun i a' w' => a'.tmps.size = 132 ∧ a'.defers = [] ∧ get a' 0 = .slice oa fs.length cap ∧ get a' 1 = .int .i64 ver ∧ get a' 2 = .bool true ∧ get a' 7 = .pointer (some ⟨w.heap.size, 0, none⟩) ∧ get a' 9 = get a1 9 ∧
     get a' 11 = .int .i64 ((sKto true ver fs v g).1 + (sTto true ver fs g v i).1 : Nat) ∧ Own eB w' w3.heap.size (get a' 10) ((sKto true ver fs v g).2 ++ (sTto true ver fs g v i).2) ∧ Chg (fun k => w3.heap.size ≤ k) w3 w' ∧
     get a' 14 = .int .i64 g ∧ get a' 51 = .int .i64 (zbn fs 0) ∧ get a' 52 = .int .i64 g ∧ get a' 55 = .slice oa fs.length cap) 132 (by omega)
    (by simp only [qea, hN, seval]) (by simp only [qea, hN, seval]) ⟨by simp only [qea, hN, seval], by simp [zab, hD], by simp only [qea, hN, seval, h0], by simp only [qea, hN, seval, h1], by simp only [qea, hN, seval, h2], by simp only [qea, hN, seval, h7], by simp only [qea, hN, seval, h9], by simp only [qea, hN, seval, h11] <;> rfl, by simp only [qea, hN, seval]; simpa [sTto, sT] using hown4, hch4, by simp only [qea, hN, seval], by simp only [qea, hN, seval, g51], by simp only [qea, hN, seval, g52], by simp only [qea, hN, seval, h0]⟩ ?_ ?_ (by decide) ?_ ?_
   ·rintro i a w ⟨h, _⟩; exact h
   ·rintro i a w t v ht ⟨k1, k2, k3, k4, k5, k6, k7, k8, k9, k10, k11, k12, k13, k14⟩
    rcases ht with rfl | rfl | rfl <;> exact ⟨by rw [zag]; exact k1, by rw [zab]; exact k2, by rw [zae (by decide)]; exact k3, by rw [zae (by decide)]; exact k4, by rw [zae (by decide)]; exact k5, by rw [zae (by decide)]; exact k6, by rw [zae (by decide)]; exact k7, by rw [zae (by decide)]; exact k8, by rw [zae (by decide)]; exact k9, k10, by rw [zae (by decide)]; exact k11, by rw [zae (by decide)]; exact k12, by rw [zae (by decide)]; exact k13, by rw [zae (by decide)]; exact k14⟩
   ·clear hN hD h0 h1 h2 h7 h9 h11 hown4 hch4 g51 g52 hb10
    rintro i a3 w5 hi ⟨hN, hD, h0, h1, h2, h7, h9, h11, hown5, hch5, h14, h51, h52, h55⟩ g56 g57
    have hcw5 : Chg (fun _ => False) w w5 := hcw3.trans hch5 fun n hn h => by have := hcw3.size; omega
    have hf : fs[i]? = some fs[i] := by simp [hi]
    have hmem : fs[i] ∈ fs := List.getElem_mem hi
    obtain ⟨b, fc, T, rfl, _, hG, hbk, hfc, hl⟩ := hfs.get hf
    have hstep := sTto_step true ver fs g v i _ hf
    have hle := sTto_le true ver fs g v (i + 1)
    rw [hstep] at hle
    simp only [List.length_append] at hle
    have hgl1 := hgl.1
    have hgl2 := hgl.2
    have hfo := hlo.mem _ hmem
    generalize fs[i] = f at hf hmem hfc hstep hle hfo
    obtain ⟨_, c0, c1, c2, c3, c4, c5, c6, _⟩ := hfc.cells
    have hbk5 := hbk.chg hcw5 (fun h => h)
    refine qsr fun K hK => ?_
    (repeat ((first | ((with_reducible refine zaw ?_ ?_ ?_ ?_); (· rfl); (· simp [qee, hN, g57] <;> omega); (· kernel_rfl)) | ((with_reducible refine qlS ?_ ?_ ?_); (· simp [qed, hN, g57]); (· kernel_rfl))); try simp only [qeb, hN, seval, g57]))
    refine zaT (b := b) (o := 0) (k := .i64) (i := i) (n := 8) (len := fs.length) (cap := cap) (by kernel_rfl) (by simp [qed, hN, h55]) (by simp [qed, hN, g57]) hi ?_
    refine za7 (b := b) (o := 0 + i * 8) (n := 8) (by kernel_rfl) (by kernel_rfl) (by simp [qed, hN]) hbk5 (by omega) ?_
    rw [Nat.zero_add]
    refine wl_allocA (z := zaZ zFld) (fun w => Tryz.zeroValue48 w) fun w6 hc6 hb6 hs6 => ?_
    (repeat ((first | ((with_reducible refine zaw ?_ ?_ ?_ ?_); (· rfl); (· simp [qee, hN] <;> omega); (· kernel_rfl)) | ((with_reducible refine qlS ?_ ?_ ?_); (· simp [qed, hN]); (· kernel_rfl))); try simp only [qeb, hN, seval]))
    refine zbh (b := w5.heap.size) (n := 8) (l' := ((fc.drop (i * 8)).take 8)) (by kernel_rfl) (by simp [qed, hN]) (by simp [qed, hN]; rfl) hb6 hfc.len hfc.one rfl fun w7 hb7 hc7 => ?_
    have hch7 : Chg (fun _ => False) w5 w7 := hc6.trans hc7 fun n hn h => by omega
    have hcw7 : Chg (fun _ => False) w w7 := hcw5.trans hch7 fun _ _ h => h
    have hown7 := hown5.chg hch7 fun _ _ h => h
    refine zaa (hK _ _ ?_); clear hK K
    have e8 : (((fc.drop (i * 8)).take 8).drop 0).take 8 = (fc.drop (i * 8)).take 8 := by rw [List.drop_zero, List.take_of_length_le (by rw [hfc.len]; omega)]
    have hbx7 : Blk w7 w.heap.size ts 26 := (hbx3.chg hch5 (by have := hbx3.lt; omega)).chg hch7 fun h => h
    have hlt5 := hown5.lt
    refine qsk fun K1 hK1 => ?_
    have skip : ∀ (a' : Act) (w' : World), tF true ver f g v i = (0, []) → a'.tmps.size = 132 → a'.defers = [] → get a' 0 = .slice (some ⟨b, 0, none⟩) fs.length cap → get a' 1 = .int .i64 ver → get a' 2 = .bool true → get a' 7 = .pointer (some ⟨w.heap.size, 0, none⟩) →
      get a' 9 = get a1 9 → get a' 11 = .int .i64 ((sKto true ver fs v g).1 + (sTto true ver fs g v i).1 : Nat) → get a' 10 = get a3 10 → get a' 14 = .int .i64 g → get a' 51 = .int .i64 (zbn fs 0) → get a' 52 = .int .i64 g → get a' 55 = .slice (some ⟨b, 0, none⟩) fs.length cap →
      get a' 56 = .int .i64 fs.length → get a' 57 = .int .i64 i → Chg (fun _ => False) w7 w' → get a' 73 = .bool false → K1 a' w' := by
     clear hN hD
     intro a' w' he hN hD j0 j1 j2 j7 j9 j11 j10 j14 j51 j52 j55 j56 j57 hcx j73
     refine hK1 _ _ ?_; try clear hK1 K1
     refine wp_cond_false (by simp [qed, hN, j73]) ?_
     refine wp_skip ⟨⟨hN, hD, j0, j1, j2, j7, j9, ?_, ?_, ?_, j14, j51, j52, j55⟩, j56, j57⟩
     ·rw [j11, hstep, he]; rfl
     ·rw [j10, hstep, he]
      simp only [List.append_nil]
      exact hown7.chg hcx fun _ _ h => h
     ·exact (hch5.trans hch7 fun _ _ h => h.elim).trans hcx fun _ _ h => h.elim
    by_cases htg : f.tag = (g : Int)
    case neg =>
     have e1 : (f.tag == (g : Int)) = false := by simpa using htg
     have htF : tF true ver f g v i = (0, []) := by simp [tF, htg]
     refine wp_sched (fun w' => Chg (fun _ => False) w7 w') [(true, 0), (true, 1), (true, 2), (true, 3), (true, 4), (true, 5), (true, 6), (true, 7), (false, 8), (false, 9), (true, 10), (true, 11)] zaR (by kernel_rfl) (by kernel_rfl) (Chg.drew _ _) ?_
     refine zbp (b := w5.heap.size) (o := 0) (off := 4) (n := 1) (by kernel_rfl) rfl (by simp [qed, hN]) ?_
     refine ws_load (b := w5.heap.size) (o := 0 + 4) (by kernel_rfl) rfl (by simp [qed, hN]) (fun w' c => hb7.chg c (fun h => h)) c4 ?_
     refine zbf rfl ?_
     simp only [qea, hN, seval, h14]
     refine ws_eql rfl (by simp [qed, hN]) ?_
     simp only [qea, hN, seval, e1]
     refine zbf rfl ?_
     simp only [qea, hN, seval]
     refine ws_gnoB rfl rfl rfl (by simp only [qea, hN, seval]) (Chg.drew _ _) ?_
     refine ws_gnoB rfl rfl rfl (by simp only [qea, hN, seval]) (Chg.drew _ _) ?_
     refine ws_gnoB rfl rfl rfl (by simp only [qea, hN, seval]) (Chg.drew _ _) ?_
     refine ws_gnoB rfl rfl rfl (by simp only [qea, hN, seval]) (Chg.drew _ _) ?_
     refine ws_gnoB rfl rfl rfl (by simp only [qea, hN, seval]) (Chg.drew _ _) ?_
     refine ws_gnoB rfl rfl rfl (by simp only [qea, hN, seval]) (Chg.drew _ _) ?_
     refine ws_pick (b := false) rfl (by simp only [qea, hN, seval]) ?_
     simp only [qea, hN, seval]
     refine ws_nil ?_
     exact skip _ _ htF (by simp only [qea, hN, seval]) (by simp [zab, hD]) (by simp only [qea, hN, seval, h0]) (by simp only [qea, hN, seval, h1]) (by simp only [qea, hN, seval, h2]) (by simp only [qea, hN, seval, h7]) (by simp only [qea, hN, seval, h9]) (by simp only [qea, hN, seval, h11]) (by simp only [qea, hN, seval]) (by simp only [qea, hN, seval, h14]) (by simp only [qea, hN, seval, h51]) (by simp only [qea, hN, seval, h52]) (by simp only [qea, hN, seval, h55]) (by simp only [qea, hN, seval, g56]) (by simp only [qea, hN, seval, g57]) (Chg.drew _ _) (by simp only [qea, hN, seval] <;> rfl)
    case pos =>
     have e1 : (f.tag == (g : Int)) = true := by simpa using htg
     refine wp_sched (fun w' => Chg (fun _ => False) w7 w') [(true, 0), (true, 1), (true, 2), (true, 3), (true, 4), (true, 5), (true, 6), (true, 7), (false, 8), (false, 9), (true, 10), (true, 11)] zaR (by kernel_rfl) (by kernel_rfl) (Chg.drew _ _) ?_
     refine zbp (b := w5.heap.size) (o := 0) (off := 4) (n := 1) (by kernel_rfl) rfl (by simp [qed, hN]) ?_
     refine ws_load (b := w5.heap.size) (o := 0 + 4) (by kernel_rfl) rfl (by simp [qed, hN]) (fun w' c => hb7.chg c (fun h => h)) c4 ?_
     refine zbf rfl ?_
     simp only [qea, hN, seval, h14]
     refine ws_eql rfl (by simp [qed, hN]) ?_
     simp only [qea, hN, seval, e1]
     refine zbf rfl ?_
     simp only [qea, hN, seval]
     refine ws_loadAggG (b := w5.heap.size) (o := 0) (n := 8) (by kernel_rfl) (by kernel_rfl) rfl rfl rfl (by simp only [qea, hN, seval]) (by simp [qed, hN]) (fun w' c => hb7.chg c (fun h => h)) (by rw [hfc.len]; omega) ?_
     rw [e8]
     refine ws_loadAggG (b := w.heap.size) (o := 0) (n := 5) (by kernel_rfl) (by kernel_rfl) rfl rfl rfl (by simp only [qea, hN, seval]) (by simp [qed, hN, h7]) (fun w' c => hbx7.chg c (fun h => h)) (by rw [hv.len]; omega) ?_
     rw [e5]
     refine ws_moveG rfl rfl rfl (by simp only [qea, hN, seval]) ?_
     simp only [qea, hN, seval]
     have hcd : Chg (fun _ => False) w w7.drew := hcw7.trans (Chg.drew _ _) fun _ _ h => h
     refine ws_callG (fun args w => Tryz.call34 args w) rfl rfl rfl (by simp only [qea, hN, seval]) (by simp [qea, hN, seval]; exact at_c v i (hv.stay (zbl.none hcd))) ?_
     rintro _ w8 ⟨⟨rs, rfl, hrs⟩, hc8⟩
     have hk8 : Chg (fun _ => False) w7 w8 := (Chg.drew _ _).trans hc8 fun _ _ h => h
     refine ⟨hk8, ?_⟩
     refine ws_callG (fun args w => Tryz.call36 args w) rfl rfl rfl (by simp only [qea, hN, seval]) (by simp [qea, hN, seval]; exact usual_c f (v.th i) hfo (hvo.th tagOK_nil i) (hfc.stay (zbl.none (hcw7.trans hk8 fun _ _ h => h))) hrs) ?_
     rintro _ w9 ⟨rfl, hc9⟩
     have hk9 : Chg (fun _ => False) w7 w9 := hk8.trans hc9 fun _ _ h => h
     refine ⟨hk9, ?_⟩
     refine ws_notG (b := sUsual f (v.th i)) rfl rfl rfl (by simp only [qea, hN, seval]) (by simp only [qea, hN, seval]) ?_
     refine ws_pick (b := true) rfl (by simp only [qea, hN, seval]) ?_
     simp only [qea, hN, seval]
     refine ws_nil ?_
     cases hus : sUsual f (v.th i) with
     | true =>
      have htF : tF true ver f g v i = (0, []) := by simp [tF, hus]
      exact skip _ _ htF (by simp only [qea, hN, seval]) (by simp [zab, hD]) (by simp only [qea, hN, seval, h0]) (by simp only [qea, hN, seval, h1]) (by simp only [qea, hN, seval, h2]) (by simp only [qea, hN, seval, h7]) (by simp only [qea, hN, seval, h9]) (by simp only [qea, hN, seval, h11]) (by simp only [qea, hN, seval]) (by simp only [qea, hN, seval, h14]) (by simp only [qea, hN, seval, h51]) (by simp only [qea, hN, seval, h52]) (by simp only [qea, hN, seval, h55]) (by simp only [qea, hN, seval, g56]) (by simp only [qea, hN, seval, g57]) hk9 (by simp only [qea, hN, seval])
     | false =>
      clear skip
      have htF : tF true ver f g v i = (1, zbo g ++ (zbo (sF true ver f (v.th i)).length ++ sF true ver f (v.th i))) := by simp [tF, hus, htg]
      rw [htF] at hstep hle
      simp only [List.length_append] at hle
      refine hK1 _ _ ?_; try clear hK1 K1
      refine wp_cond_true (by simp only [qea, hN, seval]) ?_
      have hcw9 : Chg (fun _ => False) w w9 := hcw7.trans hk9 fun _ _ h => h
      have hb9 := hb7.chg hk9 fun h => h
      have hbx9 := hbx7.chg hk9 fun h => h
      have hown9 := hown7.chg hk9 fun _ _ h => h
      have hch9 : Chg (fun k => w3.heap.size ≤ k) w3 w9 := (hch5.trans hch7 fun _ _ h => h.elim).trans hk9 fun _ _ h => h.elim
      refine qsk fun K2 hK2 => ?_
      refine wp_sched (fun w' => Chg (fun _ => False) w9 w') [(true, 0), (true, 1), (true, 2), (true, 3), (true, 4), (false, 5), (false, 6), (true, 7)] zaR (by kernel_rfl) (by kernel_rfl) (Chg.drew _ _) ?_
      refine ws_loadAgg (b := w5.heap.size) (o := 0) (n := 8) (by kernel_rfl) (by kernel_rfl) rfl (by simp [qed, hN]) (fun w' c => hb9.chg c (fun h => h)) (by rw [hfc.len]; omega) ?_
      rw [e8]
      refine zbf rfl ?_
      refine zbf rfl ?_
      simp only [qea, hN, seval, h1, h2]
      refine ws_loadAgg (b := w.heap.size) (o := 0) (n := 5) (by kernel_rfl) (by kernel_rfl) rfl (by simp [qed, hN, h7]) (fun w' c => hbx9.chg c (fun h => h)) (by rw [hv.len]; omega) ?_
      rw [e5]
      refine zbf rfl ?_
      simp only [qea, hN, seval]
      have hcd2 : Chg (fun _ => False) w w9.drew := hcw9.trans (Chg.drew _ _) fun _ _ h => h
      refine ws_call (fun args w => Tryz.call34 args w) rfl (by simp [qea, hN, seval]; exact at_c v i (hv.stay (zbl.none hcd2))) ?_
      rintro _ w10 ⟨⟨rs2, rfl, hrs2⟩, hc10⟩
      have hk10 : Chg (fun _ => False) w9 w10 := (Chg.drew _ _).trans hc10 fun _ _ h => h
      refine ⟨hk10, ?_⟩
      refine ws_call (fun args w => Tryz.call33 args w) rfl (by simp [qea, hN, seval]; exact field_c f ver true (v.th i) (hsubc f hmem).2 (hsubc f hmem).1 (hvo.th tagOK_nil i) (by unfold SLIM; omega) (hfc.stay (zbl.none (hcw9.trans hk10 fun _ _ h => h))) hrs2) ?_
      rintro v11 w11 ho11
      have hk11 : Chg (fun _ => False) w9 w11 := hk10.trans ho11.2 fun _ _ h => h
      refine ⟨hk11, ?_⟩
      obtain ⟨oa11, cap11, rfl, _, hb11⟩ := ho11.1.bytes
      have hl11 := ho11.1.lt
      refine ws_assign rfl ?_
      simp only [qea, hN, seval]
      refine ws_nil ?_
      refine hK2 _ _ ?_; try clear hK2 K2
      have kown := hown9.chg hk11 fun _ _ h => h
      have hch11 : Chg (fun k => w3.heap.size ≤ k) w3 w11 := hch9.trans hk11 fun _ _ h => h.elim
      have hklt := hown9.lt
      generalize hbf : sF true ver f (v.th i) = bf at *
      refine qsr fun K3 hK3 => ?_
      (repeat ((first | ((with_reducible refine zaw ?_ ?_ ?_ ?_); (· rfl); (· simp [qee, hN, h14] <;> omega); (· kernel_rfl)) | ((with_reducible refine qlS ?_ ?_ ?_); (· simp [qed, hN, h14]); (· kernel_rfl))); try simp only [qeb, hN, seval, h14]))
      have eg : IntKind.u64.wrap (g : Int) = (g : Int) := wrap_u64 (by have := hlo.small f hmem; omega)
      rw [eg]
      refine wl_uv (base := w3.heap.size) (v := get a3 10) g (by have := hlo.small f hmem; omega) (by simp only [qea, hN, seval]) (by simp only [qea, hN, seval]) (by simp only [qea, hN, seval]) (by decide) kown (by rw [List.length_append]; unfold LIM; omega) hch11.size ?_
      intro u1 v12 w12 happ1
      (repeat ((first | ((with_reducible refine zaw ?_ ?_ ?_ ?_); (· rfl); (· simp [qee, hN] <;> omega); (· kernel_rfl)) | ((with_reducible refine qlS ?_ ?_ ?_); (· simp [qed, hN]); (· kernel_rfl))); try simp only [qeb, hN, seval]))
      rw [show IntKind.u64.wrap (bf.length : Int) = (bf.length : Int) from wrap_u64 (by omega)]
      refine wl_uv (base := w3.heap.size) (v := v12) bf.length (by omega) (by simp only [qea, hN, seval]) (by simp only [qea, hN, seval]) (by simp only [qea, hN, seval]) (by decide) happ1.own (by rw [List.length_append, List.length_append]; unfold LIM; omega) (Nat.le_trans hch11.size happ1.chg.size) ?_
      intro u2 v13 w13 happ2
      have happ12 := happ1.trans happ2
      have hb13 : zav w13 (fun k => (Value.slice oa11 bf.length cap11).ownBlock = some k) oa11 bf := hb11.stay (zbl.of happ12.chg fun k hk _ hk2 => by have := hklt k hk2; have := hl11 k hk; have := hk10.size; omega)
      (repeat ((first | ((with_reducible refine zaw ?_ ?_ ?_ ?_); (· rfl); (· simp [qee, hN] <;> omega); (· kernel_rfl)) | ((with_reducible refine qlS ?_ ?_ ?_); (· simp [qed, hN]); (· kernel_rfl))); try simp only [qeb, hN, seval]))
      refine wl_append bT (bs' := bf) (oa := oa11) (c := cap11) (by simp only [qea, hN, seval]) (by simp only [qea, hN, seval]) happ2.own hb13 (by simp only [List.length_append]; unfold LIM; omega) (Nat.le_trans hch11.size happ12.chg.size) ?_
      intro v14 w14 happ3
      have happ := happ12.trans happ3
      (repeat ((first | ((with_reducible refine zaw ?_ ?_ ?_ ?_); (· rfl); (· simp [qee, hN] <;> omega); (· kernel_rfl)) | ((with_reducible refine qlS ?_ ?_ ?_); (· simp [qed, hN]); (· kernel_rfl))); try simp only [qeb, hN, seval]))
      refine zaa ?_
      refine hK3 _ _ ?_; try clear hK3 K3
      refine zax ?_
      (repeat ((first | ((with_reducible refine zaw ?_ ?_ ?_ ?_); (· rfl); (· simp [qee, hN, h11] <;> omega); (· kernel_rfl)) | ((with_reducible refine qlS ?_ ?_ ?_); (· simp [qed, hN, h11]); (· kernel_rfl))); try simp only [qeb, hN, seval, h11]))
      rw [zbi _ (by omega)]
      refine zaa ⟨⟨by simp only [qea, hN, seval], by simp [zab, hD], by simp only [qea, hN, seval, h0], by simp only [qea, hN, seval, h1], by simp only [qea, hN, seval, h2], by simp only [qea, hN, seval, h7], by simp only [qea, hN, seval, h9], ?_, ?_, ?_, by simp only [qea, hN, seval, h14], by simp only [qea, hN, seval, h51], by simp only [qea, hN, seval, h52], by simp only [qea, hN, seval, h55]⟩, by simp only [qea, hN, seval, g56], by simp only [qea, hN, seval, g57]⟩
      ·simp only [qea, hN, seval]
       rw [hstep]
       simp only [Value.int.injEq, true_and]
       omega
      ·simp only [qea, hN, seval]
       rw [hstep]
       simpa only [List.append_assoc] using happ.own
      ·exact hch11.trans (happ.chgFrom kown) fun _ _ h => h
   ·clear hN hD h0 h1 h2 h7 h9 h11 hown4 hch4 g51 g52 hb10
    rintro a3 w5 ⟨hN, hD, h0, h1, h2, h7, h9, h11, hown5, hch5, h14, h51, h52, h55⟩
    refine ⟨⟨hN, hD, h0, h1, h2, h7, h9, ?_, ?_, hch5⟩, h51, h52⟩
    ·rw [h11, hgs]
     unfold sTto
     rw [List.take_length]
    ·rw [hgs]
     unfold sTto at hown5
     rw [List.take_length] at hown5
     exact hown5
  ·clear hN hD h0 h1 h2 h7 h10 h11 h21
   rintro a2 w4 ⟨hN, hD, h0, h1, h2, h7, h9, h11, hown4, hch4⟩
   refine hK0 _ _ ?_; try clear hK0 K0
   unfold sKto at h11 hown4
   rw [hkt] at h11 hown4
   clear hktb
   have hcw4 : Chg (fun _ => False) w w4 := hcw3.trans hch4 fun n hn h => by have := hcw3.size; omega
   have hbx4 := hbx3.chg hch4 (by have := hbx3.lt; omega)
   obtain ⟨_, t0, hn, _, t2, _, ⟨x4, t4, hx4⟩⟩ := hv.cells
   refine qsk fun K0 hK0 => ?_; refine qsr fun K1 hK1 => ?_
   (repeat ((first | ((with_reducible refine zaw ?_ ?_ ?_ ?_); (· rfl); (· simp [qee, hN, h0] <;> omega); (· kernel_rfl)) | ((with_reducible refine qlS ?_ ?_ ?_); (· simp [qed, hN, h0]); (· kernel_rfl))); try simp only [qeb, hN, seval, h0]))
   with_reducible refine zay (b := w.heap.size) (off := 4) (n := 1) ?_ ?_ ?_
   ·kernel_rfl
   ·simp [qed, hN, h7]
   with_reducible refine zaK (b := w.heap.size) (o := 4) ?_ ?_ hbx4 t4 ?_; (· kernel_rfl); (· simp [qed, hN])
   refine zaz (fun args w => Tryz.call38 args w) (by simp [qea, hN, seval]; exact unknown_c fs v.t hlen hlo.small hvo.parts.1 (hfs.stay (zbl.none hcw4)) (hx4.stay (G' := fun g => g < w.heap.size) ⟨fun k hk hg => ⟨hcw4.block k hk (fun h => h), hk⟩⟩)) ?_
   rintro v5 w5 ⟨hunk, hc5⟩
   have hlt4 := hown4.lt
   have hul := sUnknown_len fs v.t
   have hue := sUnkEach_len (zba fs v.t)
   have hkey : sPart true ver fs v = sL true ver fs v 0 ++ sTags kt (zba fs v.t) := by unfold sPart; rw [hkt]; rfl
   unfold zbu at hul
   generalize zba fs v.t = un at hunk hul hue hlim hkey
   obtain ⟨ou, cu, rfl, hcu, hut⟩ := hunk
   (repeat ((first | ((with_reducible refine zaw ?_ ?_ ?_ ?_); (· rfl); (· simp [qee, hN] <;> omega); (· kernel_rfl)) | ((with_reducible refine qlS ?_ ?_ ?_); (· simp [qed, hN]); (· kernel_rfl))); try simp only [qeb, hN, seval]))
   refine zaa ?_
   refine hK1 _ _ ?_; try clear hK1 K1
   have hch5 : Chg (fun k => w3.heap.size ≤ k) w3 w5 := hch4.trans hc5 fun _ _ h => h.elim
   have hown5 := hown4.chg hc5 fun _ _ h => h
   refine wp_range (n := un.length) (fun j a' w' => a'.tmps.size = 132 ∧ a'.defers = [] ∧ get a' 9 = get a1 9 ∧
     get a' 11 = .int .i64 (kt.1 + j : Nat) ∧ Own eB w' w3.heap.size (get a' 10) (kt.2 ++ sUnkEach (un.take j)) ∧ Chg (fun k => (get a2 10).ownBlock = some k) w5 w' ∧ get a' 100 = .slice ou un.length cu ∧
     (∀ k, (get a' 10).ownBlock = some k → (get a2 10).ownBlock = some k ∨ w5.heap.size ≤ k)) 132 (by omega)
    (by simp only [qea, hN, seval]) (by simp only [qea, hN, seval]) ⟨by simp only [qea, hN, seval], by simp [zab, hD], by simp only [qea, hN, seval, h9], by simp only [qea, hN, seval, h11] <;> rfl, by simp only [qea, hN, seval]; simpa [sUnkEach] using hown5, Chg.refl _ _, by simp only [qea, hN, seval], by simp only [qea, hN, seval]; exact fun _ h => .inl h⟩ ?_ ?_ (by decide) ?_ ?_
   ·rintro i a w ⟨h, _⟩; exact h
   ·rintro i a w t v ht ⟨k1, k2, k3, k4, k5, k6, k7, k8⟩
    rcases ht with rfl | rfl | rfl <;> exact ⟨by rw [zag]; exact k1, by rw [zab]; exact k2, by rw [zae (by decide)]; exact k3, by rw [zae (by decide)]; exact k4, by rw [zae (by decide)]; exact k5, k6, by rw [zae (by decide)]; exact k7, by rw [zae (by decide)]; exact k8⟩
   ·clear hN hD h0 h1 h2 h7 h9 h11
    rintro j a3 w6 hj ⟨hN, hD, h9, h11, hown6, hch6, h100, hblk6⟩ g101 g102
    have hx : un[j]? = some un[j] := by simp [hj]
    have hstep : sUnkEach (un.take (j + 1)) = sUnkEach (un.take j) ++ (zbo un[j].1 ++ (zbo (un[j].2.take zbu).length ++ un[j].2.take zbu)) := flat_take _ un j _ hx
    have hle : (sUnkEach (un.take (j + 1))).length ≤ (sUnkEach un).length := flat_le _ un (j + 1)
    rw [hstep] at hle
    simp only [List.length_append] at hle
    rcases hut with rfl | ⟨b, o, cs, T, rfl, hb5, hbk5, htl⟩
    ·cases hj
    obtain ⟨htc, htl2⟩ := htl.get hx
    obtain ⟨ob, cb, e2, hk1, hk2, hk3⟩ := htc
    rw [List.drop_drop] at e2
    rw [List.length_drop] at htl2
    generalize un[j] = x at hx hstep hle e2 hk1 hk2 hk3
    have hb5' : b < w.heap.size ∨ w4.heap.size ≤ b := hb5
    have h3s := hcw3.size
    have hbne : ∀ k, (get a2 10).ownBlock = some k → k ≠ b := fun k hk => by have := hlt4 k hk; omega
    have hbk6 := hbk5.chg hch6 (fun h => hbne _ h rfl)
    have h6s := hch6.size
    refine qsr fun K hK => ?_
    (repeat ((first | ((with_reducible refine zaw ?_ ?_ ?_ ?_); (· rfl); (· simp [qee, hN, g102] <;> omega); (· kernel_rfl)) | ((with_reducible refine qlS ?_ ?_ ?_); (· simp [qed, hN, g102]); (· kernel_rfl))); try simp only [qeb, hN, seval, g102]))
    refine zaT (b := b) (o := o) (k := .i64) (i := j) (n := 2) (len := un.length) (cap := cu) (by kernel_rfl) (by simp [qed, hN, h100]) (by simp [qed, hN, g102]) hj ?_
    refine wl_loadAgg_r (b := b) (o := o + j * 2) (n := 2) (by kernel_rfl) (by kernel_rfl) (by simp [qed, hN]) hbk6 (by omega) ?_
    rw [e2]
    refine wl_allocA (z := zaZ zTag) (fun w => Tryz.zeroValue59 w) fun w7 hc7 hb7 hs7 => ?_
    (repeat ((first | ((with_reducible refine zaw ?_ ?_ ?_ ?_); (· rfl); (· simp [qee, hN] <;> omega); (· kernel_rfl)) | ((with_reducible refine qlS ?_ ?_ ?_); (· simp [qed, hN]); (· kernel_rfl))); try simp only [qeb, hN, seval]))
    refine zbh (b := w6.heap.size) (n := 2) (l' := [.int .u32 x.1, .slice ob x.2.length cb]) (by kernel_rfl) (by simp [qed, hN]) (by simp [qed, hN]; rfl) hb7 rfl (by intro y hy; simp only [List.mem_cons, List.not_mem_nil, or_false] at hy; rcases hy with rfl | rfl <;> rfl) rfl fun w8 hb8 hc8 => ?_
    have hk8 : Chg (fun _ => False) w6 w8 := hc7.trans hc8 fun n hn h => by omega
    refine zaa (hK _ _ ?_); clear hK K
    refine qsr fun K hK => ?_
    with_reducible refine zay (b := w6.heap.size) (off := 1) (n := 1) ?_ ?_ ?_; (· kernel_rfl); (· simp [qed, hN])
    with_reducible refine zaK (b := w6.heap.size) (o := 1) ?_ ?_ hb8 rfl ?_; (· kernel_rfl); (· simp [qed, hN])
    refine zaz (fun args w => Tryz.call39 args w) (by simp [qea, hN, seval]; exact whole_c x.2 hk2) ?_
    rintro _ w9 ⟨rfl, rfl⟩
    (repeat ((first | ((with_reducible refine zaw ?_ ?_ ?_ ?_); (· rfl); (· simp [qee, hN] <;> omega); (· kernel_rfl)) | ((with_reducible refine qlS ?_ ?_ ?_); (· simp [qed, hN]); (· kernel_rfl))); try simp only [qeb, hN, seval]))
    refine zaa (hK _ _ ?_); clear hK K
    have kown := hown6.chg hk8 fun _ _ h => h
    have hks := hk8.size
    have hch8 : Chg (fun k => (get a2 10).ownBlock = some k) w5 w9 := hch6.trans hk8 fun _ _ h => h.elim
    have hsz : w3.heap.size ≤ w9.heap.size := Nat.le_trans hch5.size hch8.size
    have hbt : zav w9 (fun g => (g < w.heap.size ∨ w4.heap.size ≤ g) ∧ g < w5.heap.size) ob (x.2.take zbu) := (hk3.take zbu).stay ⟨fun k hk hg => ⟨hch8.block k hk (fun h => by have := hlt4 k h; have hg' : k < w.heap.size ∨ w4.heap.size ≤ k := hg; omega), hg, hk⟩⟩
    have htk : (x.2.take zbu).length ≤ 32767 := by rw [List.length_take]; unfold zbu; omega
    generalize x.2.take zbu = bf at hbt htk hstep hle
    refine qsr fun K hK => ?_
    (repeat ((first | ((with_reducible refine zaw ?_ ?_ ?_ ?_); (· rfl); (· simp [qee, hN] <;> omega); (· kernel_rfl)) | ((with_reducible refine qlS ?_ ?_ ?_); (· simp [qed, hN]); (· kernel_rfl))); try simp only [qeb, hN, seval]))
    with_reducible refine zay (b := w6.heap.size) (off := 0) (n := 1) ?_ ?_ ?_; (· kernel_rfl); (· simp [qed, hN])
    with_reducible refine zaK (b := w6.heap.size) (o := 0) ?_ ?_ hb8 rfl ?_; (· kernel_rfl); (· simp [qed, hN])
    (repeat ((first | ((with_reducible refine zaw ?_ ?_ ?_ ?_); (· rfl); (· simp [qee, hN] <;> omega); (· kernel_rfl)) | ((with_reducible refine qlS ?_ ?_ ?_); (· simp [qed, hN]); (· kernel_rfl))); try simp only [qeb, hN, seval]))
    rw [show IntKind.u64.wrap (x.1 : Int) = (x.1 : Int) from wrap_u64 (by omega)]
    refine wl_uv (base := w3.heap.size) (v := get a3 10) x.1 hk1 (by simp only [qea, hN, seval]) (by simp only [qea, hN, seval]) (by simp only [qea, hN, seval]) (by decide) kown (by rw [List.length_append]; unfold LIM; omega) hsz ?_
    intro u1 v12 w12 happ1
    (repeat ((first | ((with_reducible refine zaw ?_ ?_ ?_ ?_); (· rfl); (· simp [qee, hN] <;> omega); (· kernel_rfl)) | ((with_reducible refine qlS ?_ ?_ ?_); (· simp [qed, hN]); (· kernel_rfl))); try simp only [qeb, hN, seval]))
    rw [show IntKind.u64.wrap (bf.length : Int) = (bf.length : Int) from wrap_u64 (by omega)]
    refine wl_uv (base := w3.heap.size) (v := v12) bf.length (by omega) (by simp only [qea, hN, seval]) (by simp only [qea, hN, seval]) (by simp only [qea, hN, seval]) (by decide) happ1.own (by rw [List.length_append, List.length_append]; unfold LIM; omega) (Nat.le_trans hsz happ1.chg.size) ?_
    intro u2 v13 w13 happ2
    have happ12 := happ1.trans happ2
    have hb13 : zav w13 (fun _ => True) ob bf := hbt.stay ⟨fun k hk hg => ⟨happ12.chg.block k hk (fun h => by
     have hg1 : k < w.heap.size ∨ w4.heap.size ≤ k := hg.1
     have hg2 := hg.2
     rcases hblk6 k h with h | h
     ·have := hlt4 k h; omega
     ·omega), trivial⟩⟩
    (repeat ((first | ((with_reducible refine zaw ?_ ?_ ?_ ?_); (· rfl); (· simp [qee, hN] <;> omega); (· kernel_rfl)) | ((with_reducible refine qlS ?_ ?_ ?_); (· simp [qed, hN]); (· kernel_rfl))); try simp only [qeb, hN, seval]))
    refine wl_append bT (bs' := bf) (oa := ob) (c := cb) (by simp only [qea, hN, seval]) (by simp only [qea, hN, seval]) happ2.own hb13 (by simp only [List.length_append]; unfold LIM; omega) (Nat.le_trans hsz happ12.chg.size) ?_
    intro v14 w14 happ3
    have happ := happ12.trans happ3
    (repeat ((first | ((with_reducible refine zaw ?_ ?_ ?_ ?_); (· rfl); (· simp [qee, hN] <;> omega); (· kernel_rfl)) | ((with_reducible refine qlS ?_ ?_ ?_); (· simp [qed, hN]); (· kernel_rfl))); try simp only [qeb, hN, seval]))
    refine zaa (hK _ _ ?_); clear hK K
    refine zax ?_
    (repeat ((first | ((with_reducible refine zaw ?_ ?_ ?_ ?_); (· rfl); (· simp [qee, hN, h11] <;> omega); (· kernel_rfl)) | ((with_reducible refine qlS ?_ ?_ ?_); (· simp [qed, hN, h11]); (· kernel_rfl))); try simp only [qeb, hN, seval, h11]))
    rw [zbi _ (by omega)]
    refine zaa ⟨⟨by simp only [qea, hN, seval], by simp [zab, hD], by simp only [qea, hN, seval, h9], ?_, ?_, ?_, by simp only [qea, hN, seval, h100], ?_⟩, by simp only [qea, hN, seval, g101], by simp only [qea, hN, seval, g102]⟩
    ·simp only [qea, hN, seval]
     simp only [Value.int.injEq, true_and]
     omega
    ·simp only [qea, hN, seval]
     rw [hstep]
     simpa only [List.append_assoc] using happ.own
    ·refine hch8.trans (happ.chg) fun n hn h => ?_
     rcases hblk6 n h with h | h
     ·exact h
     ·omega
    ·simp only [qea, hN, seval]
     intro k hk
     rcases happ.blk with h | ⟨k', h, h'⟩
     ·rw [h] at hk; exact hblk6 k hk
     ·rw [h] at hk
      simp only [Option.some.injEq] at hk
      right; omega
   ·clear hN hD h0 h1 h2 h7 h9 h11
    rintro a3 w6 ⟨hN, hD, h9, h11, hown6, hch6, h100, hblk6⟩
    rw [List.take_length] at hown6
    refine hK0 _ _ ?_; try clear hK0 K0
    have hch6' : Chg (fun k => w3.heap.size ≤ k) w3 w6 := hch5.trans hch6 fun n hn h => (hlt4 n h).1
    have hown9 := hown3.chg hch6' fun k hk hk2 => by have := hlt9 k hk; omega
    obtain ⟨oa10, cap10, e10, _, hb10⟩ := hown6.bytes
    have hlt6 := hown6.lt
    refine qsr fun K hK => ?_
    (repeat ((first | ((with_reducible refine zaw ?_ ?_ ?_ ?_); (· rfl); (· simp [qee, hN, h9, h11] <;> omega); (· kernel_rfl)) | ((with_reducible refine qlS ?_ ?_ ?_); (· simp [qed, hN, h9, h11]); (· kernel_rfl))); try simp only [qeb, hN, seval, h9, h11]))
    rw [show IntKind.u64.wrap ((kt.1 + un.length : Nat) : Int) = ((kt.1 + un.length : Nat) : Int) from wrap_u64 (by omega)]
    refine wl_uv (base := w1.heap.size) (v := get a1 9) (kt.1 + un.length) (by omega) (by simp only [qea, hN, seval]) (by simp only [qea, hN, seval]) (by simp only [qea, hN, seval]) (by decide) hown9 (by unfold LIM; omega) (Nat.le_trans (Nat.le_trans hch.size hc3.size) hch6'.size) ?_
    intro u1 v12 w12 happ1
    (repeat ((first | ((with_reducible refine zaw ?_ ?_ ?_ ?_); (· rfl); (· simp [qee, hN] <;> omega); (· kernel_rfl)) | ((with_reducible refine qlS ?_ ?_ ?_); (· simp [qed, hN]); (· kernel_rfl))); try simp only [qeb, hN, seval]))
    refine wl_append bT (bs' := kt.2 ++ sUnkEach un) (oa := oa10) (c := cap10) (by simp only [qea, hN, seval]) (by simp only [qea, hN, seval, e10]) happ1.own (hb10.stay (G' := fun _ => True) ⟨fun k hk hg => ⟨happ1.chg.block k hk (fun h => by have := hlt9 k h; have := hlt6 k hg; omega), trivial⟩⟩) (by simp only [List.length_append]; unfold LIM; omega) (Nat.le_trans (Nat.le_trans (Nat.le_trans hch.size hc3.size) hch6'.size) happ1.chg.size) ?_
    intro v14 w14 happ3
    have happ := happ1.trans happ3
    (repeat ((first | ((with_reducible refine zaw ?_ ?_ ?_ ?_); (· rfl); (· simp [qee, hN] <;> omega); (· kernel_rfl)) | ((with_reducible refine qlS ?_ ?_ ?_); (· simp [qed, hN]); (· kernel_rfl))); try simp only [qeb, hN, seval]))
    refine zaa (hK _ _ ?_); clear hK K
    refine wp_ret ⟨by simp [zab, hD], ?_⟩; simp only [qea, hN, seval]
    rw [hkey]
    refine ⟨?_, ?_⟩
    ·have := happ.own.mono hc.size
     unfold sTags
     simpa only [List.append_assoc] using this
    ·refine (hcw3.trans hch6' fun n hn h => by have := hcw3.size; omega).trans happ.chg fun n hn h => by have := hlt9 n h; have := hc.size; omega
mutual
def okF : Fld → Bool
 | .mk _ _ _ _ tag df of sub => decide (of ≠ .list) && decide (tag < 1073741824) && decide (sub.length ≤ 1073741824) && okL sub && (decide (-9223372036854775808 ≤ df) && decide (df ≤ 9223372036854775807))
def okL : List Fld → Bool
 | [] => true
 | f :: r => okF f && okL r
end
mutual
theorem okF.fok : ∀ {f : Fld}, okF f = true → FOK f
 | .mk _ _ _ _ tag _ of sub, h => by
  unfold okF at h
  simp only [Bool.and_eq_true, decide_eq_true_eq] at h
  unfold FOK
  exact ⟨h.1.1.2, okL.lok h.1.2⟩
theorem okL.lok : ∀ {fs : List Fld}, okL fs = true → LOK fs
 | [], _ => by unfold LOK; trivial
 | f :: r, h => by
  unfold okL at h
  simp only [Bool.and_eq_true] at h
  unfold LOK
  refine ⟨?_, okF.fok h.1, okL.lok h.2⟩
  have h1 := h.1
  cases f
  unfold okF at h1
  simp only [Bool.and_eq_true, decide_eq_true_eq] at h1
  exact h1.1.1.1.2
end
theorem okL.mem : ∀ {fs : List Fld}, okL fs = true → ∀ f ∈ fs, okF f = true
 | [], _, f, hf => by cases hf
 | g :: r, h, f, hf => by
  unfold okL at h
  simp only [Bool.and_eq_true] at h
  rcases List.mem_cons.1 hf with rfl | hf
  ·exact h.1
  ·exact okL.mem h.2 f hf
theorem part_N : ∀ (N : Nat) (fs : List Fld), SizeOf.sizeOf fs < N → okL fs = true → fs.length ≤ 1073741824 → PartC fs
 | 0, _, h, _, _ => by omega
 | N + 1, fs, hN, hok, hlen => by
  refine part_of fs hlen (okL.lok hok) fun f hf => ?_
  have h1 := okL.mem hok f hf
  have hs := List.sizeOf_lt_of_mem hf
  cases f with
  | mk k a b nl tg df of sub =>
   unfold okF at h1
   simp only [Bool.and_eq_true, decide_eq_true_eq] at h1
   refine ⟨h1.1.1.1.1, fun _ => part_N N sub ?_ h1.1.2 h1.1.1.2⟩
   simp only [Fld.mk.sizeOf_spec] at hs
   omega
theorem part_c (fs : List Fld) (hok : okL fs = true) (hlen : fs.length ≤ 1073741824) : PartC fs := part_N _ fs (Nat.lt_succ_self _) hok hlen
theorem Write_c (fs : List Fld) (flex ver : Int) (v : Tr) (hok : okL fs = true) (hlen : fs.length ≤ 1073741824) (hvo : TROK v) (hlim : (sPart (decide (0 ≤ flex) && decide (flex ≤ ver)) ver fs v).length ≤ SLIM)
  {w : World} {G G' : Nat → Prop} {sv : Value} {ts : List Value} (hfs : SchS w G fs sv) (hv : TrC w G' v ts) :
  zaF Tryz.prog 7 #[zaZ [sv, .int .i64 flex], .int .i64 ver, zaZ ts] w fun r w' => Octs w r (sPart (decide (0 ≤ flex) && decide (flex ≤ ver)) ver fs v) w' := by
 refine zaq Tryz.func7 rfl rfl Tryz.ntmps7 (by simp) ?_
 intro a hN hD ha
 have h0 : get a 0 = zaZ [sv, .int .i64 flex] := ha 0 _ rfl
 have h1 : get a 1 = .int .i64 ver := ha 1 _ rfl
 have h2 : get a 2 = zaZ ts := ha 2 _ rfl
 refine qsr fun K hK => ?_
 refine wl_boxA (l := [sv, .int .i64 flex]) (by simp [qed, hN, h0]) fun w1 hc hb hs => ?_
 refine wl_boxA (l := ts) (by simp [qed, hN, h2]) fun w2 hc2 hb2 hs2 => ?_
 replace hb := hb.chg hc2 (fun h => h)
 replace hc := hc.trans hc2 (fun _ _ h => h)
 rw [hs] at hb2 ⊢
 (repeat ((first | ((with_reducible refine zaw ?_ ?_ ?_ ?_); (· rfl); (· simp [qee, hN] <;> omega); (· kernel_rfl)) | ((with_reducible refine qlS ?_ ?_ ?_); (· simp [qed, hN]); (· kernel_rfl))); try simp only [qeb, hN, seval]))
 refine zaa (hK _ _ ?_); clear hK K
 have e5 : (ts.drop 0).take 5 = ts := by rw [List.drop_zero, List.take_of_length_le (by rw [hv.len]; omega)]
 obtain ⟨oa, cap, rfl, hfs'⟩ := id hfs
 have fin : ∀ (b : Bool), b = (decide (0 ≤ flex) && decide (flex ≤ ver)) → zaF Tryz.prog 18 #[.slice oa fs.length cap, .int .i64 ver, .bool b, zaZ ts] w2 fun r w' => Octs w2 r (sPart (decide (0 ≤ flex) && decide (flex ≤ ver)) ver fs v) w' := by
  rintro b rfl
  exact part_c fs hok hlen ver _ v hvo hlim (hfs.stay (zbl.none hc)) (hv.stay (zbl.none hc))
 refine qsr fun K hK => ?_
 with_reducible refine zay (b := w.heap.size) (off := 0) (n := 1) ?_ ?_ ?_; (· kernel_rfl); (· simp [qed, hN])
 with_reducible refine zaK (b := w.heap.size) (o := 0) ?_ ?_ hb rfl ?_; (· kernel_rfl); (· simp [qed, hN])
 (repeat ((first | ((with_reducible refine zaw ?_ ?_ ?_ ?_); (· rfl); (· simp [qee, hN, h1] <;> omega); (· kernel_rfl)) | ((with_reducible refine qlS ?_ ?_ ?_); (· simp [qed, hN, h1]); (· kernel_rfl))); try simp only [qeb, hN, seval, h1]))
 with_reducible refine zay (b := w.heap.size) (off := 1) (n := 1) ?_ ?_ ?_; (· kernel_rfl); (· simp [qed, hN])
 with_reducible refine zaK (b := w.heap.size) (o := 1) ?_ ?_ hb rfl ?_; (· kernel_rfl); (· simp [qed, hN])
 (repeat ((first | ((with_reducible refine zaw ?_ ?_ ?_ ?_); (· rfl); (· simp [qee, hN] <;> omega); (· kernel_rfl)) | ((with_reducible refine qlS ?_ ?_ ?_); (· simp [qed, hN]); (· kernel_rfl))); try simp only [qeb, hN, seval]))
 by_cases hf : 0 ≤ flex
 ·(repeat (first | ((with_reducible refine zaw ?_ ?_ ?_ ?_); (· exact rfl); (· simp [qee, hN, h1, hf, zac] <;> omega); (· kernel_rfl); try simp only [qeb, hN, seval, h1, hf, zac]) | ((with_reducible refine qlS ?_ ?_ ?_); (· simp [qed, hN, h1, hf, zac]); (· kernel_rfl); try simp only [qeb, hN, seval, h1, hf, zac]) | ((with_reducible first | refine zaC ?_ ?_ ?_ | refine zaB ?_ ?_ ?_ | refine zaD ?_ ?_) <;> (first | (with_reducible refine zau ?_; try simp only [qeb, hN, seval, h1, hf, zac]) | (simp [qed, hN, h1, hf, zac] <;> omega))) | ((with_reducible refine zao ?_ ?_); (· simp [qed, hN, h1, hf, zac]); try simp only [qeb, hN, seval, h1, hf, zac]) | ((with_reducible refine zan ?_ ?_); (· simp [qed, hN, h1, hf, zac]); try simp only [qeb, hN, seval, h1, hf, zac]) | ((with_reducible apply zak); (· exact rfl); (· exact rfl); (· simp [qed, hN, h1, hf, zac]); try simp only [qeb, hN, seval, h1, hf, zac]) | ((with_reducible apply zas); (· exact rfl); (· exact rfl); (· simp [qed, hN, h1, hf, zac]); try simp only [qeb, hN, seval, h1, hf, zac]) | ((with_reducible apply zat); (· exact rfl); (· exact rfl); (· simp [qed, hN, h1, hf, zac]); try simp only [qeb, hN, seval, h1, hf, zac])))
  with_reducible refine zay (b := w.heap.size) (off := 1) (n := 1) ?_ ?_ ?_; (· kernel_rfl); (· simp [qed, hN])
  (repeat (first | ((with_reducible refine zaw ?_ ?_ ?_ ?_); (· exact rfl); (· simp [qee, hN, hf, zac] <;> omega); (· kernel_rfl); try simp only [qeb, hN, seval, hf, zac]) | ((with_reducible refine qlS ?_ ?_ ?_); (· simp [qed, hN, hf, zac]); (· kernel_rfl); try simp only [qeb, hN, seval, hf, zac]) | ((with_reducible first | refine zaC ?_ ?_ ?_ | refine zaB ?_ ?_ ?_ | refine zaD ?_ ?_) <;> (first | (with_reducible refine zau ?_; try simp only [qeb, hN, seval, hf, zac]) | (simp [qed, hN, hf, zac] <;> omega))) | ((with_reducible refine zao ?_ ?_); (· simp [qed, hN, hf, zac]); try simp only [qeb, hN, seval, hf, zac]) | ((with_reducible refine zan ?_ ?_); (· simp [qed, hN, hf, zac]); try simp only [qeb, hN, seval, hf, zac]) | ((with_reducible apply zak); (· exact rfl); (· exact rfl); (· simp [qed, hN, hf, zac]); try simp only [qeb, hN, seval, hf, zac]) | ((with_reducible apply zas); (· exact rfl); (· exact rfl); (· simp [qed, hN, hf, zac]); try simp only [qeb, hN, seval, hf, zac]) | ((with_reducible apply zat); (· exact rfl); (· exact rfl); (· simp [qed, hN, hf, zac]); try simp only [qeb, hN, seval, hf, zac])))
  with_reducible refine zaK (b := w.heap.size) (o := 1) ?_ ?_ hb rfl ?_; (· kernel_rfl); (· simp [qed, hN])
  (repeat (first | ((with_reducible refine zaw ?_ ?_ ?_ ?_); (· exact rfl); (· simp [qee, hN, hf, zac] <;> omega); (· kernel_rfl); try simp only [qeb, hN, seval, hf, zac]) | ((with_reducible refine qlS ?_ ?_ ?_); (· simp [qed, hN, hf, zac]); (· kernel_rfl); try simp only [qeb, hN, seval, hf, zac]) | ((with_reducible first | refine zaC ?_ ?_ ?_ | refine zaB ?_ ?_ ?_ | refine zaD ?_ ?_) <;> (first | (with_reducible refine zau ?_; try simp only [qeb, hN, seval, hf, zac]) | (simp [qed, hN, hf, zac] <;> omega))) | ((with_reducible refine zao ?_ ?_); (· simp [qed, hN, hf, zac]); try simp only [qeb, hN, seval, hf, zac]) | ((with_reducible refine zan ?_ ?_); (· simp [qed, hN, hf, zac]); try simp only [qeb, hN, seval, hf, zac]) | ((with_reducible apply zak); (· exact rfl); (· exact rfl); (· simp [qed, hN, hf, zac]); try simp only [qeb, hN, seval, hf, zac]) | ((with_reducible apply zas); (· exact rfl); (· exact rfl); (· simp [qed, hN, hf, zac]); try simp only [qeb, hN, seval, hf, zac]) | ((with_reducible apply zat); (· exact rfl); (· exact rfl); (· simp [qed, hN, hf, zac]); try simp only [qeb, hN, seval, hf, zac])))
  refine za7 (b := w.heap.size + 1) (o := 0) (n := 5) (by kernel_rfl) (by kernel_rfl) (by simp [qed, hN]) hb2 (by rw [hv.len]; omega) ?_
  rw [e5]
  (repeat (first | ((with_reducible refine zaw ?_ ?_ ?_ ?_); (· exact rfl); (· simp [qee, hN, hf, zac] <;> omega); (· kernel_rfl); try simp only [qeb, hN, seval, hf, zac]) | ((with_reducible refine qlS ?_ ?_ ?_); (· simp [qed, hN, hf, zac]); (· kernel_rfl); try simp only [qeb, hN, seval, hf, zac]) | ((with_reducible first | refine zaC ?_ ?_ ?_ | refine zaB ?_ ?_ ?_ | refine zaD ?_ ?_) <;> (first | (with_reducible refine zau ?_; try simp only [qeb, hN, seval, hf, zac]) | (simp [qed, hN, hf, zac] <;> omega))) | ((with_reducible refine zao ?_ ?_); (· simp [qed, hN, hf, zac]); try simp only [qeb, hN, seval, hf, zac]) | ((with_reducible refine zan ?_ ?_); (· simp [qed, hN, hf, zac]); try simp only [qeb, hN, seval, hf, zac]) | ((with_reducible apply zak); (· exact rfl); (· exact rfl); (· simp [qed, hN, hf, zac]); try simp only [qeb, hN, seval, hf, zac]) | ((with_reducible apply zas); (· exact rfl); (· exact rfl); (· simp [qed, hN, hf, zac]); try simp only [qeb, hN, seval, hf, zac]) | ((with_reducible apply zat); (· exact rfl); (· exact rfl); (· simp [qed, hN, hf, zac]); try simp only [qeb, hN, seval, hf, zac])))
  refine zaz (fun args w => Tryz.call18 args w) (by simp [qea, hN, seval, h1]; exact fin _ (by simp [hf])) ?_
  rintro r w3 ho
  (repeat ((first | ((with_reducible refine zaw ?_ ?_ ?_ ?_); (· rfl); (· simp [qee, hN] <;> omega); (· kernel_rfl)) | ((with_reducible refine qlS ?_ ?_ ?_); (· simp [qed, hN]); (· kernel_rfl))); try simp only [qeb, hN, seval]))
  refine zaa (hK _ _ ?_); clear hK K
  refine wp_ret ⟨by simp [zab, hD], ?_⟩; simp only [qea, hN, seval]
  exact ⟨ho.1.mono hc.size, hc.trans ho.2 fun _ _ h => h⟩
 ·(repeat (first | ((with_reducible refine zaw ?_ ?_ ?_ ?_); (· exact rfl); (· simp [qee, hN, h1, hf, zac] <;> omega); (· kernel_rfl); try simp only [qeb, hN, seval, h1, hf, zac]) | ((with_reducible refine qlS ?_ ?_ ?_); (· simp [qed, hN, h1, hf, zac]); (· kernel_rfl); try simp only [qeb, hN, seval, h1, hf, zac]) | ((with_reducible first | refine zaC ?_ ?_ ?_ | refine zaB ?_ ?_ ?_ | refine zaD ?_ ?_) <;> (first | (with_reducible refine zau ?_; try simp only [qeb, hN, seval, h1, hf, zac]) | (simp [qed, hN, h1, hf, zac] <;> omega))) | ((with_reducible refine zao ?_ ?_); (· simp [qed, hN, h1, hf, zac]); try simp only [qeb, hN, seval, h1, hf, zac]) | ((with_reducible refine zan ?_ ?_); (· simp [qed, hN, h1, hf, zac]); try simp only [qeb, hN, seval, h1, hf, zac]) | ((with_reducible apply zak); (· exact rfl); (· exact rfl); (· simp [qed, hN, h1, hf, zac]); try simp only [qeb, hN, seval, h1, hf, zac]) | ((with_reducible apply zas); (· exact rfl); (· exact rfl); (· simp [qed, hN, h1, hf, zac]); try simp only [qeb, hN, seval, h1, hf, zac]) | ((with_reducible apply zat); (· exact rfl); (· exact rfl); (· simp [qed, hN, h1, hf, zac]); try simp only [qeb, hN, seval, h1, hf, zac])))
  refine za7 (b := w.heap.size + 1) (o := 0) (n := 5) (by kernel_rfl) (by kernel_rfl) (by simp [qed, hN]) hb2 (by rw [hv.len]; omega) ?_
  rw [e5]
  (repeat (first | ((with_reducible refine zaw ?_ ?_ ?_ ?_); (· exact rfl); (· simp [qee, hN, hf, zac] <;> omega); (· kernel_rfl); try simp only [qeb, hN, seval, hf, zac]) | ((with_reducible refine qlS ?_ ?_ ?_); (· simp [qed, hN, hf, zac]); (· kernel_rfl); try simp only [qeb, hN, seval, hf, zac]) | ((with_reducible first | refine zaC ?_ ?_ ?_ | refine zaB ?_ ?_ ?_ | refine zaD ?_ ?_) <;> (first | (with_reducible refine zau ?_; try simp only [qeb, hN, seval, hf, zac]) | (simp [qed, hN, hf, zac] <;> omega))) | ((with_reducible refine zao ?_ ?_); (· simp [qed, hN, hf, zac]); try simp only [qeb, hN, seval, hf, zac]) | ((with_reducible refine zan ?_ ?_); (· simp [qed, hN, hf, zac]); try simp only [qeb, hN, seval, hf, zac]) | ((with_reducible apply zak); (· exact rfl); (· exact rfl); (· simp [qed, hN, hf, zac]); try simp only [qeb, hN, seval, hf, zac]) | ((with_reducible apply zas); (· exact rfl); (· exact rfl); (· simp [qed, hN, hf, zac]); try simp only [qeb, hN, seval, hf, zac]) | ((with_reducible apply zat); (· exact rfl); (· exact rfl); (· simp [qed, hN, hf, zac]); try simp only [qeb, hN, seval, hf, zac])))
  refine zaz (fun args w => Tryz.call18 args w) (by simp [qea, hN, seval, h1]; exact fin _ (by simp [hf])) ?_
  rintro r w3 ho
  (repeat ((first | ((with_reducible refine zaw ?_ ?_ ?_ ?_); (· rfl); (· simp [qee, hN] <;> omega); (· kernel_rfl)) | ((with_reducible refine qlS ?_ ?_ ?_); (· simp [qed, hN]); (· kernel_rfl))); try simp only [qeb, hN, seval]))
  refine zaa (hK _ _ ?_); clear hK K
  refine wp_ret ⟨by simp [zab, hD], ?_⟩; simp only [qea, hN, seval]
  exact ⟨ho.1.mono hc.size, hc.trans ho.2 fun _ _ h => h⟩
def za3 (f : Fld) (sv : Value) : List Value := [kV f.kind, .int .i64 f.from_, .int .i64 f.to, .int .i64 f.null, .int .i64 f.tag, .int .i64 f.dflt, kV f.of, sv]
theorem zbg {w : World} {G : Nat → Prop} (f : Fld) {sv : Value} (h : SchS w G f.sub sv) : SchF w G f (za3 f sv) := by
 obtain ⟨oa, cap, rfl, h⟩ := h
 cases f
 unfold SchF
 exact ⟨oa, cap, rfl, h⟩
theorem schS_nil (w : World) (G : Nat → Prop) (oa : Option Addr) (cap : Nat) : SchS w G [] (.slice oa 0 cap) := ⟨oa, cap, rfl, .inl rfl⟩
theorem schL_of {w : World} {G : Nat → Prop} : ∀ {fs : List Fld} {css : List (List Value)}, All2 (SchF w G) fs css → SchL w G fs css.flatten
 | _, _, .nil => by unfold SchL; trivial
 | _, _, .cons (a := f) (b := c) (l := r) (m := m) h1 h2 => by
  have hl := h1.len
  unfold SchL
  rw [List.flatten_cons, List.take_left' hl, List.drop_left' hl]
  exact ⟨h1, schL_of h2⟩
def LaysS (fn : FuncId) (fs : List Fld) : Prop := ∀ w : World, zaF Tryz.prog fn #[] w fun v w' => SchS w' (fun g => w.heap.size ≤ g) fs v ∧ Chg (fun _ => False) w w'
def LaysM (fn : FuncId) (fs : List Fld) (flex : Int) : Prop := ∀ w : World, zaF Tryz.prog fn #[] w fun v w' => ∃ sv, v = zaZ [sv, .int .i64 flex] ∧ SchS w' (fun g => w.heap.size ≤ g) fs sv ∧ Chg (fun _ => False) w w'
theorem SchS.later {w0 w1 w2 wn : World} {fs : List Fld} {v : Value} (h : SchS w2 (fun g => w1.heap.size ≤ g) fs v) (hc : Chg (fun _ => False) w2 wn) (hs : w0.heap.size ≤ w1.heap.size) : SchS wn (fun g => w0.heap.size ≤ g) fs v :=
 h.stay ⟨fun k hk hg => ⟨hc.block k hk (fun h => h), Nat.le_trans hs hg⟩⟩
theorem wl_fields {ops : Array Oper} {Q : Exit → Act → World → Prop} {a : Act} {w w0 : World} {rest : List Oper} {d : Option Nat} {ty : TypeId} {pos : String} {af : Array Edge} {n : Nat} {parts : Array (Nat × Operand)}
  (fs : List Fld) (css : List (List Value)) (hn : n = css.length) (hp : parts.map (fun x => (x.1, a.eval x.2)) = ((css.map zaZ).zipIdx.map fun x => (x.2, x.1)).toArray) (hs : css.length * 8 ≤ 16777216)
  (hc : Chg (fun _ => False) w0 w) (hall : All2 (SchF w (fun g => w0.heap.size ≤ g)) fs css) 
  (h : ∀ v w', Chg (fun _ => False) w0 w' → Chg (fun _ => False) w w' → SchS w' (fun g => w0.heap.size ≤ g) fs v → v = .slice (some ⟨w.heap.size, 0, none⟩) fs.length fs.length → WL Tryz.prog ops Q rest (a.put d v) w') :
  WL Tryz.prog ops Q (⟨d, .buildSlice 30 n parts, ty, pos, af, none⟩ :: rest) a w := by
 subst hn
 have hl : ∀ c ∈ css, c.length = 8 := by
  intro c hm
  clear hp hs h
  induction hall with
  | nil => cases hm
  | cons h1 _ ih =>
   rcases List.mem_cons.1 hm with rfl | hm
   ·exact h1.len
   ·exact ih hm
 have hlen := hall.length
 have h1 : ∀ v ∈ css.map zaZ, v.cells.size = 8 := by
  intro v hv
  obtain ⟨c, hc, rfl⟩ := List.mem_map.1 hv
  have := hl c hc
  simpa [zaZ, Value.cells] using this
 have hr := run_buildSlice (P := Tryz.prog) (w := w) (t := 30) (e := 48) (sz := 8) rfl (by kernel_rfl) (fun w => Tryz.zeroValue48 w) (css.map zaZ) h1 (by simpa using hs) (by omega)
 rw [List.length_map, ← hp] at hr
 have e : (css.map zaZ).flatMap (fun v => v.cells.toList) = css.flatten := by
  rw [List.flatMap_map, List.flatMap_def]
  congr 1
  rw [List.map_congr_left (g := id) (fun c _ => aggOf_cells c)]
  simp
 rw [e] at hr
 have hc2 : Chg (fun _ => False) w (w.alloc (.cells css.flatten.toArray 48)) := Chg.alloc _ _ _
 have hb : Blk (w.alloc (.cells css.flatten.toArray 48)) w.heap.size css.flatten 48 := Blk.new _ _ _
 refine zaL rfl (by simp only [execOp, Sem.run_bind, hr]; rfl) (h _ _ (hc.trans hc2 fun _ _ h => h) hc2 ?_ (by rw [hlen]))
 refine ⟨_, _, by rw [hlen], .inr ⟨_, _, _, rfl, hc.size, hb, ?_⟩⟩
 exact SchL.stay (zbl.none hc2) (schL_of hall)
end Go.Proofs.YtnjjfpgpookjlaaGreatDoor
