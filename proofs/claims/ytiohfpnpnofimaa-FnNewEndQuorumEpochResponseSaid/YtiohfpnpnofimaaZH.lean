import Derived.Test.YtiohfpnpnofimaaZW
import Derived.Test.YtiohfpnpnofimaaZA
import Derived.Test.YtiohfpnpnofimaaZI
/-
What the proofs of the laws rest on, part ZH.
-/
namespace Go.Proofs.Ytiohfpnpnofimaa
set_option linter.all false
theorem newA : True := trivial
end Go.Proofs.Ytiohfpnpnofimaa
namespace Go.Proofs.Ytiohfpnpnofimaa
set_option linter.all false
open Go.RowKit
set_option maxRecDepth 10000
set_option maxHeartbeats 2000000
theorem trL_of {w : World} {G : Nat → Prop} : ∀ {l : List Tr} {css : List (List Value)} (r : List Value), All2 (TrC w G) l css → TrL w G l (css.flatten ++ r)
  | _, _, r, .nil => by unfold TrL; trivial
  | _, _, r, .cons (a := f) (b := c) (l := l) (m := m) h1 h2 => by
    have hl := h1.len
    unfold TrL
    rw [List.flatten_cons, List.append_assoc, List.take_left' hl, List.drop_left' hl]
    exact ⟨h1, trL_of r h2⟩
theorem All2.snoc {α β : Type} {R : α → β → Prop} : ∀ {l : List α} {m : List β} {a : α} {b : β}, All2 R l m → R a b → All2 R (l ++ [a]) (m ++ [b])
  | _, _, _, _, .nil, h => .cons h .nil
  | _, _, _, _, .cons x y, h => .cons x (y.snoc h)
theorem sDefL_len : ∀ fs : List Fld, (sDefL fs).length = fs.length
  | [] => rfl
  | f :: r => by simp [sDefL, sDefL_len r]
theorem sDefL_get : ∀ (fs : List Fld) (i : Nat) (f : Fld), fs[i]? = some f → (sDefL fs)[i]? = some (sDefF f)
  | [], i, f, h => by simp at h
  | g :: r, 0, f, h => by simp at h; subst h; rfl
  | g :: r, i + 1, f, h => by
    have := sDefL_get r i f (by simpa using h)
    simpa [sDefL] using this
theorem sDefL_step (fs : List Fld) (i : Nat) (f : Fld) (h : fs[i]? = some f) : (sDefL fs).take (i + 1) = (sDefL fs).take i ++ [sDefF f] := by
  rw [List.take_add_one, sDefL_get fs i f h]; rfl
theorem trS_of {w : World} {base : Nat} {v : Value} {l : List Tr} {css : List (List Value)} {G : Nat → Prop} {n : Nat} (h : w.ownsRow base 35 5 v n css.flatten) (hn : n = l.length) (ha : All2 (TrC w G) l css) (hg : ∀ k, v.ownBlock = some k → G k) : TrS w G l v := by
  subst hn
  obtain ⟨oa, cap, rfl, hc, hr⟩ := ownsRow_slice h
  refine ⟨oa, cap, rfl, hc, ?_⟩
  rcases hr with h0 | ⟨g, cs, rfl, hb, hbk, htk, hob⟩
  · exact .inl (List.eq_nil_of_length_eq_zero h0)
  · refine .inr ⟨g, 0, cs, _, rfl, hg g hob, hbk.r, ?_⟩
    rw [List.drop_zero, ← List.take_append_drop (l.length * 5) cs, htk]
    exact trL_of _ ha
def defCells (f : Fld) (v : Value) : List Value := [.int .i64 f.dflt, .slice none 0 0, .bool (decide (0 ≤ f.null)), v, .slice none 0 0]
theorem def_N : ∀ (N : Nat) (fs : List Fld), SizeOf.sizeOf fs < N → okL fs = true → fs.length ≤ 1073741824 → ∀ (w : World) (G : Nat → Prop) (oa : Option Addr) (cap : Nat), SchS w G fs (.slice oa fs.length cap) →
    zaG Try.prog 10 #[.slice oa fs.length cap] w fun r w' => ∃ ts, r = zaO ts ∧ TrC w' (fun g => w.heap.size ≤ g) (sDef fs) ts ∧ Chg (fun _ => False) w w'
  | 0, _, h, _, _, _, _, _, _, _ => by omega
  | N + 1, fs, hN, hok, hlen, w, G, oa, cap, hfs => by
    refine callsR_ofC Try.func10 rfl rfl (by kernel_rfl) Try.ntmps10 (by simp) ?_
    intro a hN' hD ha
    have h0 : get a 0 = .slice oa fs.length cap := ha 0 _ rfl
    have hN := hN'
    clear hN'
    refine wp_seq_k fun K hK => ?_; refine zai ?_
    refine wl_allocA (z := zaO zTree) (fun w => Try.zeroValue35 w) fun w1 hc1 hb1 hs1 => ?_
    refine zag ?_; refine hK _ _ ?_; clear hK K
    refine wp_seq_k fun K hK => ?_; refine zai ?_
    refine wl_allocA (z := zaO zTree) (fun w => Try.zeroValue35 w) fun w2 hc2 hb2 hs2 => ?_
    replace hb1 := hb1.chg hc2 (fun h => h)
    have hc := hc1.trans hc2 (fun _ _ h => h)
    rw [hs1] at hb2 ⊢
    refine zag ?_; refine hK _ _ ?_; clear hK K
    refine wp_seq_k fun K0 hK0 => ?_; refine wp_seq_k fun K hK => ?_; refine zai ?_
    (repeat (first | ((with_reducible refine zaw ?_ ?_ ?_ ?_); (· exact rfl); (· simp [evb, kb, hN, h0, dyb, sdb] <;> omega); (· kernel_rfl); try simp only [evb, kb, hN, seval, pvb, h0]) | ((with_reducible refine zad ?_ ?_ ?_); rotate_left 1; (· simp [evb, kb, hN, h0, sdb]); rotate_left 1; (· kernel_rfl); try simp only [evb, kb, hN, seval, pvb, h0])))
    refine zag ?_; refine hK _ _ ?_; clear hK K
    refine wp_range (n := fs.length) (fun i a' w' => ∃ ov css, a'.tmps.size = 35 ∧ a'.defers = [] ∧ get a' 2 = .pointer (some ⟨w.heap.size, 0, none⟩) ∧ get a' 3 = .pointer (some ⟨w.heap.size + 1, 0, none⟩) ∧ get a' 7 = .slice oa fs.length cap ∧
        Blk w' w.heap.size zTree 35 ∧ Blk w' (w.heap.size + 1) [.int .i64 0, .slice none 0 0, .bool false, ov, .slice none 0 0] 35 ∧ w'.ownsRow w2.heap.size 35 5 ov i css.flatten ∧
        All2 (TrC w' (fun g => w2.heap.size ≤ g ∧ ov.ownBlock ≠ some g)) ((sDefL fs).take i) css ∧ Chg (fun k => w.heap.size ≤ k) w w' ∧ w2.heap.size ≤ w'.heap.size) 35 (by omega)
      (by simp only [evb, kb, hN, seval]) (by simp only [evb, kb, hN, seval]) ⟨.slice none 0 0, [], by simp only [evb, kb, hN, seval], by simp [zaf, hD], by simp only [evb, kb, hN, seval], by simp only [evb, kb, hN, seval], by simp only [evb, kb, hN, seval, h0], hb1, hb2, World.ownsRow_nil _ _ _ _, by rw [List.take_zero]; exact .nil, hc.mono fun _ _ h => h.elim, Nat.le_refl _⟩ ?_ ?_ (by decide) ?_ ?_
    · rintro i a w ⟨ov, css, h, _⟩; exact h
    · rintro i a w t v ht ⟨ov, css, k1, k2, k3, k4, k5, k6⟩
      rcases ht with rfl | rfl | rfl <;> exact ⟨ov, css, by rw [zak]; exact k1, by rw [zaf]; exact k2, by rw [zab (by decide)]; exact k3, by rw [zab (by decide)]; exact k4, by rw [zab (by decide)]; exact k5, k6⟩
    · clear hN hD h0
      rintro i a1 w3 hi ⟨ov, css, hN, hD, g2, g3, g7, hB1, hB2, hrow, hall, hch, hsz⟩ g8 g9
      have hf : fs[i]? = some fs[i] := by simp [hi]
      have hmem : fs[i] ∈ fs := List.getElem_mem hi
      obtain ⟨b, fc, T, rfl, _, hG, hbk, hfc, hl⟩ := hfs.get hf
      have hstep := sDefL_step fs i _ hf
      have hokf := okL.mem hok _ hmem
      have hszf := List.sizeOf_lt_of_mem hmem
      generalize fs[i] = f at hf hmem hfc hstep hokf hszf
      obtain ⟨_, c0, c1, c2, c3, c4, c5, c6, x7, c7, hx7⟩ := hfc.cells
      have hcw : Chg (fun _ => False) w w3 := chg_own hch
      have hbk3 := hbk.chg hcw (fun h => h)
      have hlt := hrow.lt
      refine wp_seq_k fun K1 hK1 => ?_; refine zai ?_
      refine wl_indexAddr (b := b) (o := 0) (k := .i64) (i := i) (n := 8) (len := fs.length) (cap := cap) (by kernel_rfl) (by simp [evb, kb, hN, g7, sdb]) (by simp [evb, kb, hN, g9, sdb]) hi ?_
      refine zaR (b := b) (o := 0 + i * 8) (n := 8) (by kernel_rfl) (by kernel_rfl) (by simp [evb, kb, hN, sdb]) hbk3 (by omega) ?_
      rw [Nat.zero_add]
      refine wl_allocA (z := zaO zFld) (fun w => Try.zeroValue43 w) fun w4 hc4 hb4 hs4 => ?_
      refine zaT (b := w3.heap.size) (n := 8) (l' := ((fc.drop (i * 8)).take 8)) (by kernel_rfl) (by simp [evb, kb, hN, sdb]) (by simp [evb, kb, hN, sdb]; rfl) hb4 hfc.len hfc.one rfl fun w5 hb5 hc5 => ?_
      have hk5 : Chg (fun _ => False) w3 w5 := hc4.trans hc5 fun n hn h => by omega
      refine zag ?_
      refine hK1 _ _ ?_; try clear hK1 K1
      refine wp_seq_k fun K1 hK1 => ?_; refine zai ?_
      with_reducible refine zau (b := w3.heap.size) (off := 5) (n := 1) ?_ ?_ ?_; (· kernel_rfl); (· simp [evb, kb, hN, sdb])
      with_reducible refine zaE (b := w3.heap.size) (o := 5) ?_ ?_ hb5 c5 ?_; (· kernel_rfl); (· simp [evb, kb, hN, sdb])
      with_reducible refine zau (b := w3.heap.size) (off := 3) (n := 1) ?_ ?_ ?_; (· kernel_rfl); (· simp [evb, kb, hN, sdb])
      with_reducible refine zaE (b := w3.heap.size) (o := 3) ?_ ?_ hb5 c3 ?_; (· kernel_rfl); (· simp [evb, kb, hN, sdb])
      (repeat (first | ((with_reducible refine zaw ?_ ?_ ?_ ?_); (· exact rfl); (· simp [evb, kb, hN, dyb, sdb] <;> omega); (· kernel_rfl); try simp only [evb, kb, hN, seval, pvb]) | ((with_reducible refine zad ?_ ?_ ?_); rotate_left 1; (· simp [evb, kb, hN, sdb]); rotate_left 1; (· kernel_rfl); try simp only [evb, kb, hN, seval, pvb])))
      refine wl_build (l := defCells f (.slice none 0 0)) (by simp only [List.map_toArray, List.map_cons, List.map_nil, evb, kb, hN, seval]; kernel_rfl) ?_
      refine wl_allocA (z := zaO zTree) (fun w => Try.zeroValue35 w) fun w6 hc6 hb6 hs6 => ?_
      have h5s : w3.heap.size + 1 ≤ w5.heap.size := by have := hb5.lt; omega
      refine zaT (b := w5.heap.size) (n := 5) (l' := defCells f (.slice none 0 0)) (by kernel_rfl) (by simp [evb, kb, hN, sdb]) (by simp [evb, kb, hN, sdb]) hb6 rfl (by intro y hy; simp only [defCells, List.mem_cons, List.not_mem_nil, or_false] at hy; rcases hy with rfl | rfl | rfl | rfl | rfl <;> rfl) rfl fun w7 hb7 hc7 => ?_
      have hk7 : Chg (fun _ => False) w3 w7 := (hk5.trans hc6 fun _ _ h => h).trans hc7 fun n hn h => by omega
      refine zag ?_
      refine hK1 _ _ ?_; try clear hK1 K1
      have hcw7 : Chg (fun _ => False) w w7 := hcw.trans hk7 fun _ _ h => h
      have h7s := hk7.size
      have h2s : w2.heap.size = w.heap.size + 2 := by omega
      refine wp_seq_k fun K2 hK2 => ?_
      have rest : ∀ (a' : Act) (w8 : World) (lv : List Tr) (v : Value), a'.tmps.size = 35 → a'.defers = [] → get a' 2 = .pointer (some ⟨w.heap.size, 0, none⟩) → get a' 3 = .pointer (some ⟨w.heap.size + 1, 0, none⟩) → get a' 6 = .pointer (some ⟨w5.heap.size, 0, none⟩) → get a' 7 = .slice (some ⟨b, 0, none⟩) fs.length cap →
          get a' 8 = .int .i64 fs.length → get a' 9 = .int .i64 i → Chg (fun k => k = w5.heap.size) w7 w8 → Blk w8 w5.heap.size (defCells f v) 35 → TrS w8 (fun g => w2.heap.size ≤ g ∧ ov.ownBlock ≠ some g) lv v → sDefF f = dfNode f lv → K2 a' w8 := by
        clear hN hD g2 g3 g7 g8 g9
        intro a' w8 lv v hN hD g2 g3 g6 g7 g8 g9 hk8 hb8 hts heq
        refine hK2 _ _ ?_; try clear hK2 K2
        have hk38 : Chg (fun k => False) w3 w8 := hk7.trans hk8 fun n hn h => by omega
        have hB1' := hB1.chg hk38 fun h => h
        have hB2' := hB2.chg hk38 fun h => h
        have hrow' := ownsRow_chg hrow hk38 fun _ _ h => h
        have h8s := hk38.size
        have hcell : TrC w8 (fun g => w2.heap.size ≤ g ∧ ov.ownBlock ≠ some g) (sDefF f) (defCells f v) := by
          obtain ⟨ol, cl, rfl, hcl, hel⟩ := hts
          rw [heq]
          unfold dfNode TrC
          have hdf : IntKind.i64.wrap f.dflt = f.dflt := by
            have h1 := hokf
            cases f
            unfold okF at h1
            simp only [Bool.and_eq_true, decide_eq_true_eq] at h1
            exact i64_id _ h1.2
          exact ⟨none, 0, ol, cl, _, rfl, hdf, Nat.le_refl _, hcl, .inl rfl, hel, none, 0, rfl, Nat.le_refl _, .inl rfl⟩
        have hall' : All2 (TrC w8 (fun g => w2.heap.size ≤ g ∧ ov.ownBlock ≠ some g)) ((sDefL fs).take (i + 1)) (css ++ [defCells f v]) := by
          rw [hstep]
          exact (hall.imp fun _ _ h => h.stay (Stay.none hk38)).snoc hcell
        refine zai ?_
        with_reducible refine zau (b := w.heap.size + 1) (off := 3) (n := 1) ?_ ?_ ?_
        · kernel_rfl
        · simp [evb, kb, hN, g3, sdb]
        with_reducible refine zaE (b := w.heap.size + 1) (o := 3) ?_ ?_ hB2' rfl ?_; (· kernel_rfl); (· simp [evb, kb, hN, sdb])
        refine zaR (b := w5.heap.size) (o := 0) (n := 5) (by kernel_rfl) (by kernel_rfl) (by simp [evb, kb, hN, g6, sdb]) hb8 (Nat.le_refl _) ?_
        have e5 : ((defCells f v).drop 0).take 5 = defCells f v := rfl
        rw [e5]
        refine wl_append1 (e := 35) (sz := 5) (bytes := 88) (base := w2.heap.size) (v := ov) (n := i) (xs := css.flatten) (cs := defCells f v) (by kernel_rfl) (by omega) (by omega) ⟨_, fun w => Try.zeroValue35 w⟩ (by simp only [evb, kb, hN, seval]) (by simp only [evb, kb, hN, seval]) (by simp only [evb, kb, hN, seval]) rfl hcell.one hrow' (by omega) (by omega) (by omega) ?_
        intro u v' w9 happ
        (repeat (first | ((with_reducible refine zaw ?_ ?_ ?_ ?_); (· exact rfl); (· simp [evb, kb, hN, g3, dyb, sdb] <;> omega); (· kernel_rfl); try simp only [evb, kb, hN, seval, pvb, g3]) | ((with_reducible refine zad ?_ ?_ ?_); rotate_left 1; (· simp [evb, kb, hN, g3, sdb]); rotate_left 1; (· kernel_rfl); try simp only [evb, kb, hN, seval, pvb, g3])))
        with_reducible refine zau (b := w.heap.size + 1) (off := 3) (n := 1) ?_ ?_ ?_
        · kernel_rfl
        · simp [evb, kb, hN, g3, sdb]
        have hblt := hB2'.lt
        have hovlt : ∀ k, ov.ownBlock = some k → w2.heap.size ≤ k ∧ k < w3.heap.size := hlt
        have hb9 := hB2'.chg happ.chg (fun h => by have := hovlt _ h; omega)
        have hB19 := hB1'.chg happ.chg (fun h => by have := hovlt _ h; omega)
        have hone : v'.cells = #[v'] := by obtain ⟨oa', cap', rfl, _⟩ := ownsRow_slice happ.own; rfl
        have hone2 : v'.oneCell' = true := by obtain ⟨oa', cap', rfl, _⟩ := ownsRow_slice happ.own; rfl
        refine wl_store (b := w.heap.size + 1) (o := 3) (n := 1) (v := v') (by kernel_rfl) (by simp [evb, kb, hN, sdb]) (by simp [evb, kb, hN, sdb]) hb9 (by rw [hone]; rfl) (by intro y hy; rw [hone] at hy; simp only [List.mem_singleton] at hy; subst hy; exact hone2) (by simp) fun w10 hb10 hc10 => ?_
        rw [hone] at hb10
        have hv'lt := happ.own.lt
        have hst : Stay w8 w10 (fun g => w2.heap.size ≤ g ∧ ov.ownBlock ≠ some g) (fun g => w2.heap.size ≤ g ∧ v'.ownBlock ≠ some g) := ⟨fun k hk hg => ⟨(hc10.block k (Nat.lt_of_lt_of_le hk happ.chg.size) (by omega)).trans (happ.chg.block k hk hg.2), hg.1, by
          rcases happ.blk with h | ⟨k', h, h'⟩
          · rw [h]; exact hg.2
          · rw [h]; simp only [ne_eq, Option.some.injEq]; omega⟩⟩
        refine zag ⟨⟨v', css ++ [defCells f v], by simp only [evb, kb, hN, seval], by simp [zaf, hD], by simp only [evb, kb, hN, seval, g2], by simp only [evb, kb, hN, seval, g3], by simp only [evb, kb, hN, seval, g7], hB19.chg hc10 (by omega), hb10, ?_, hall'.imp fun _ _ h => h.stay hst, ?_, ?_⟩, by simp only [evb, kb, hN, seval, g8], by simp only [evb, kb, hN, seval, g9]⟩
        · rw [List.flatten_append]
          simp only [List.flatten_cons, List.flatten_nil, List.append_nil]
          exact ownsRow_chg happ.own hc10 fun k hk e => by have := hv'lt k hk; omega
        · have h38 : Chg (fun k => w.heap.size ≤ k) w w8 := hch.trans hk38 fun _ _ h => h.elim
          exact (h38.trans happ.chg fun n hn h => by have := hovlt _ h; omega).trans hc10 fun n hn h => by omega
        · exact Nat.le_trans (Nat.le_trans hsz h8s) (Nat.le_trans happ.chg.size hc10.size)
      have hb57 : Blk w7 w3.heap.size ((fc.drop (i * 8)).take 8) 43 := (hb5.chg hc6 (fun h => h)).chg hc7 (by omega)
      refine wp_seq_k fun K3 hK3 => ?_; refine zai ?_
      with_reducible refine zau (b := w3.heap.size) (off := 0) (n := 1) ?_ ?_ ?_; (· kernel_rfl); (· simp [evb, kb, hN, sdb])
      with_reducible refine zaE (b := w3.heap.size) (o := 0) ?_ ?_ hb57 c0 ?_; (· kernel_rfl); (· simp [evb, kb, hN, sdb])
      unfold kV
      by_cases hst : f.kind = .struct
      · have hsk : ((zaC f.kind : Int) == 10) = true := by rw [hst]; rfl
        (repeat (first | ((with_reducible refine zaw ?_ ?_ ?_ ?_); (· exact rfl); (· simp [evb, kb, hN, hsk, dyb, sdb] <;> omega); (· kernel_rfl); try simp only [evb, kb, hN, seval, pvb, hsk]) | ((with_reducible refine zad ?_ ?_ ?_); rotate_left 1; (· simp [evb, kb, hN, hsk, sdb]); rotate_left 1; (· kernel_rfl); try simp only [evb, kb, hN, seval, pvb, hsk])))
        refine zag ?_
        refine hK3 _ _ ?_; try clear hK3 K3
        refine wp_cond_true (by simp [evb, kb, hN, sdb]) ?_
        obtain ⟨k, fr, to, nl, tg, df, of, sub⟩ := f
        simp only [Fld.kind, Fld.sub] at hst hx7 c7 ⊢
        subst hst
        obtain ⟨oas, caps, rfl, hsub⟩ := id hx7
        have hok2 := hokf
        unfold okF at hok2
        simp only [Bool.and_eq_true, decide_eq_true_eq] at hok2
        refine zai ?_
        with_reducible refine zau (b := w3.heap.size) (off := 7) (n := 1) ?_ ?_ ?_; (· kernel_rfl); (· simp [evb, kb, hN, sdb])
        with_reducible refine zaE (b := w3.heap.size) (o := 7) ?_ ?_ hb57 c7 ?_; (· kernel_rfl); (· simp [evb, kb, hN, sdb])
        refine zaD (fun args w => Try.call10 args w) (by simp [evb, kb, hN, seval]; exact def_N N sub (by simp only [Fld.mk.sizeOf_spec] at hszf; omega) hok2.1.2 hok2.1.1.2 w7 G oas caps (hx7.stay (Stay.none hcw7))) ?_
        rintro _ w8 ⟨ts, rfl, hts, hk8⟩
        unfold sDef TrC at hts
        obtain ⟨ob, cb, ol, cl, vt, rfl, _, _, hcl, _, hel, _⟩ := hts
        refine zaK rfl (v := .slice ol (sDefL sub).length cl) (w' := w8) ?_ ?_
        · simp only [execOp, evb, kb, hN, seval, zaO]; kernel_rfl
        simp only [evb, kb, hN, seval]
        have hb78 := hb7.chg hk8 fun h => h
        with_reducible refine zau (b := w5.heap.size) (off := 3) (n := 1) ?_ ?_ ?_; (· kernel_rfl); (· simp [evb, kb, hN, sdb])
        refine wl_store (b := w5.heap.size) (o := 3) (n := 1) (v := .slice ol (sDefL sub).length cl) (by kernel_rfl) (by simp [evb, kb, hN, sdb]) (by simp [evb, kb, hN, sdb]) hb78 rfl (by intro y hy; simp only [Value.cells, List.mem_singleton] at hy; subst hy; rfl) (by simp [defCells]) fun w9 hb9 hc9 => ?_
        refine zag ?_
        refine rest _ w9 (sDefL sub) (.slice ol (sDefL sub).length cl) (by simp only [evb, kb, hN, seval]) (by simp [zaf, hD]) (by simp only [evb, kb, hN, seval, g2]) (by simp only [evb, kb, hN, seval, g3]) (by simp only [evb, kb, hN, seval]) (by simp only [evb, kb, hN, seval, g7]) (by simp only [evb, kb, hN, seval, g8]) (by simp only [evb, kb, hN, seval, g9]) ((hk8.mono fun _ _ h => h.elim).trans hc9 fun _ _ h => h) hb9 ?_ ?_
        · have htr : TrS w8 (fun g => w7.heap.size ≤ g) (sDefL sub) (.slice ol (sDefL sub).length cl) := ⟨ol, cl, rfl, hcl, hel⟩
          refine htr.stay ⟨fun k hk hg => ⟨hc9.block k hk (by have := hb7.lt; omega), by omega, fun h => by have := hlt k h; omega⟩⟩
        · unfold sDefF; rw [if_pos rfl]
      · have hsk : ((zaC f.kind : Int) == 10) = false := by
          cases hk : f.kind <;> rw [hk] at hst <;> first | rfl | exact absurd rfl hst
        (repeat (first | ((with_reducible refine zaw ?_ ?_ ?_ ?_); (· exact rfl); (· simp [evb, kb, hN, hsk, dyb, sdb] <;> omega); (· kernel_rfl); try simp only [evb, kb, hN, seval, pvb, hsk]) | ((with_reducible refine zad ?_ ?_ ?_); rotate_left 1; (· simp [evb, kb, hN, hsk, sdb]); rotate_left 1; (· kernel_rfl); try simp only [evb, kb, hN, seval, pvb, hsk])))
        refine zag ?_
        refine hK3 _ _ ?_; try clear hK3 K3
        refine wp_cond_false (by simp [evb, kb, hN, sdb]) ?_
        refine wp_skip ?_
        refine rest _ w7 [] (.slice none 0 0) (by simp only [evb, kb, hN, seval]) (by simp [zaf, hD]) (by simp only [evb, kb, hN, seval, g2]) (by simp only [evb, kb, hN, seval, g3]) (by simp only [evb, kb, hN, seval]) (by simp only [evb, kb, hN, seval, g7]) (by simp only [evb, kb, hN, seval, g8]) (by simp only [evb, kb, hN, seval, g9]) (Chg.refl _ _) hb7 ⟨none, 0, rfl, Nat.le_refl _, .inl rfl⟩ ?_
        obtain ⟨k, fr, to, nl, tg, df, of, sub⟩ := f
        unfold sDefF
        simp only [Fld.kind] at hst
        rw [if_neg hst]
    · clear hN hD h0
      rintro a1 w3 ⟨ov, css, hN, hD, g2, g3, g7, hB1, hB2, hrow, hall, hch, hsz⟩
      have hl := sDefL_len fs
      rw [List.take_of_length_le (by omega)] at hall
      refine hK0 _ _ ?_; try clear hK0 K0
      refine wp_seq_k fun K hK => ?_; refine zai ?_
      refine zaR (b := w.heap.size + 1) (o := 0) (n := 5) (by kernel_rfl) (by kernel_rfl) (by simp [evb, kb, hN, g3, sdb]) hB2 (Nat.le_refl _) ?_
      have hlt := hrow.lt
      have h2s : w2.heap.size = w.heap.size + 2 := by omega
      have hone2 : ov.oneCell' = true := by obtain ⟨oa', cap', rfl, _⟩ := ownsRow_slice hrow; rfl
      refine zaT (b := w.heap.size) (n := 5) (l' := [.int .i64 0, .slice none 0 0, .bool false, ov, .slice none 0 0]) (by kernel_rfl) (by simp [evb, kb, hN, g2, sdb]) (by simp [evb, kb, hN, sdb]; rfl) hB1 rfl (by intro y hy; simp only [List.mem_cons, List.not_mem_nil, or_false] at hy; rcases hy with rfl | rfl | rfl | rfl | rfl <;> first | rfl | exact hone2) rfl fun w4 hb4 hc4 => ?_
      refine zag ?_; refine hK _ _ ?_; clear hK K
      have hst : Stay w3 w4 (fun g => w2.heap.size ≤ g ∧ ov.ownBlock ≠ some g) (fun g => w.heap.size ≤ g) := ⟨fun k hk hg => ⟨hc4.block k hk (by omega), by omega⟩⟩
      have htr : TrS w4 (fun g => w.heap.size ≤ g) (sDefL fs) ov := trS_of (ownsRow_chg hrow hc4 fun k hk e => by have := hlt k hk; omega) (by omega) (hall.imp fun _ _ h => h.stay hst) (fun k hk => by have := hlt k hk; omega)
      obtain ⟨ol, cl, rfl, hcl, hel⟩ := htr
      refine wp_ret ⟨by simp [zaf, hD], w.heap.size, _, _, by simp only [evb, kb, hN, seval, g2], hb4, by kernel_rfl, ⟨_, rfl, ?_, ?_⟩⟩
      · unfold sDef TrC
        exact ⟨none, 0, ol, cl, _, rfl, rfl, Nat.le_refl _, hcl, .inl rfl, hel, none, 0, rfl, Nat.le_refl _, .inl rfl⟩
      · exact (chg_own hch).trans hc4 fun n hn h => by omega
theorem Default_c (fs : List Fld) (hok : okL fs = true) (hlen : fs.length ≤ 1073741824) {w : World} {G : Nat → Prop} {sv : Value} (hfs : SchS w G fs sv) :
    zaG Try.prog 10 #[sv] w fun r w' => ∃ ts, r = zaO ts ∧ TrC w' (fun g => w.heap.size ≤ g) (sDef fs) ts ∧ Chg (fun _ => False) w w' := by
  obtain ⟨oa, cap, rfl, h⟩ := id hfs
  exact def_N _ fs (Nat.lt_succ_self _) hok hlen w G oa cap hfs
end Go.Proofs.Ytiohfpnpnofimaa
namespace Go.Proofs.Ytiohfpnpnofimaa
set_option linter.all false
open Go.RowKit
set_option maxRecDepth 10000
set_option maxHeartbeats 1000000
section
variable {P : Program} {ops : Array Oper} {Q : Exit → Act → World → Prop} {a : Act} {w : World} {rest : List Oper} {d : Option Nat} {ty : TypeId} {pos : String} {af : Array Edge}
theorem wl_rem {t u : TypeId} {x y : Operand} {j : IntKind} {m n : Int} (hx : a.eval x = .int j m) (hy : a.eval y = .int j n) (hn : n ≠ 0)
    (h : WL P ops Q rest (a.put d (.int j (m.tmod n))) w) : WL P ops Q (⟨d, .binOp .rem t x y u, ty, pos, af, none⟩ :: rest) a w :=
  zaK rfl (by simp [execOp, eqGuard, binOp, hx, hy, Op.intDiv, hn]) h
end
theorem i16_id (n : Int) (h : -32768 ≤ n ∧ n ≤ 32767) : IntKind.i16.wrap n = n := by simp [IntKind.wrap, IntKind.bits, IntKind.signed]; split <;> omega
theorem version_c (n most : Int) (hn : 0 ≤ n) (hm : 0 ≤ most) (hm2 : most < 32768) (hn2 : n < 256) (w : World) : zaG Try.prog 8 #[.int .u8 n, .int .i64 most] w fun v w' => v = .int .i64 (n % (most + 1)) ∧ w' = w := by
  refine zaA Try.func8 rfl rfl Try.ntmps8 (by simp) ?_
  intro a hN hD ha
  have h0 : get a 0 = .int .u8 n := ha 0 _ rfl
  have h1 : get a 1 = .int .i64 most := ha 1 _ rfl
  refine wp_seq_k fun K hK => ?_; refine zai ?_; (repeat (first | ((with_reducible refine zaw ?_ ?_ ?_ ?_); (· exact rfl); (· simp [evb, kb, hN, dyb, sdb] <;> omega); (· kernel_rfl); try simp only [evb, kb, hN, seval, pvb]) | ((with_reducible refine zad ?_ ?_ ?_); rotate_left 1; (· simp [evb, kb, hN, sdb]); rotate_left 1; (· kernel_rfl); try simp only [evb, kb, hN, seval, pvb]))); refine zag ?_; refine hK _ _ ?_; clear hK K
  refine wp_seq_k fun K hK => ?_; refine zai ?_; (repeat (first | ((with_reducible refine zaw ?_ ?_ ?_ ?_); (· exact rfl); (· simp [evb, kb, hN, h0, h1, dyb, sdb] <;> omega); (· kernel_rfl); try simp only [evb, kb, hN, seval, pvb, h0, h1]) | ((with_reducible refine zad ?_ ?_ ?_); rotate_left 1; (· simp [evb, kb, hN, h0, h1, sdb]); rotate_left 1; (· kernel_rfl); try simp only [evb, kb, hN, seval, pvb, h0, h1])))
  rw [i64_id n (by omega), i64_id (most + 1) (by omega)]
  refine wl_rem (j := .i64) (m := n) (n := most + 1) (by simp only [evb, kb, hN, seval]) (by simp only [evb, kb, hN, seval]) (by omega) ?_
  rw [Int.tmod_eq_emod_of_nonneg hn]
  (repeat (first | ((with_reducible refine zaw ?_ ?_ ?_ ?_); (· exact rfl); (· simp [evb, kb, hN, dyb, sdb] <;> omega); (· kernel_rfl); try simp only [evb, kb, hN, seval, pvb]) | ((with_reducible refine zad ?_ ?_ ?_); rotate_left 1; (· simp [evb, kb, hN, sdb]); rotate_left 1; (· kernel_rfl); try simp only [evb, kb, hN, seval, pvb]))); refine zag ?_; refine hK _ _ ?_; clear hK K; refine wp_ret ⟨by simp [zaf, hD], ?_⟩; simp only [evb, kb, hN, seval]
  exact ⟨by first | rfl | trivial, by first | rfl | trivial⟩
def NewsPtr (fn : FuncId) (fl : Bool) (fs : List Fld) : Prop := ∀ w : World, zaG Try.prog fn #[] w fun v w' => v = .pointer (some ⟨w.heap.size, 0, none⟩) ∧ Chg (fun _ => False) w w' ∧
  ∃ cs T, Blk w' w.heap.size cs T ∧ (∃ n, cs[0]? = some (.int .i16 n)) ∧ 1 + ssz fl fs ≤ cs.length ∧ repSB fl fs (dfltL fs) ((cs.drop 1).take (ssz fl fs)) = true
theorem newptr_of {fn fd : FuncId} {func : Func} {T ty1 ty2 ty3 ty0 r t1 t2 N : Nat} {r0 r1 r2 r3 : Nat} {q0 q1 q2 q3 : String} {e0 e1 e2 e3 : Array Edge} {us : Array TypeId} {fl : Bool} {fs : List Fld} {z : Value} (cs : List Value)
    (hfn : (Try.prog).funcs[fn]? = some func)
    (hbody : func.body = some (.seq (.region r0 #[⟨some r, .assign (.const (.pointer none)), ty0, q0, e0, none⟩] false) (.seq (.region r1 #[⟨some t1, .alloc T, ty1, q1, e1, none⟩] false)
      (.seq (.region r2 #[⟨some t2, .call { callee := .value (.func fd), args := #[.tmp t1], argTypes := us }, ty2, q2, e2, none⟩] false) (.seq (.region r3 #[⟨some r, .assign (.tmp t1), ty3, q3, e3, none⟩] false) .ret)))))
    (hres : func.results = #[.tmp r]) (hN : func.ntmps = N) (hlt : (decide (r < N) && decide (t1 < N) && decide (t1 ≠ t2)) = true) (hz : zeroB Try.prog T z) (hen : Enters Try.prog fd)
    (hdef : ∀ w B, Blk w B z.cells.toList T → zaG Try.prog fd #[.pointer (some ⟨B, 0, none⟩)] w fun _ w' => Blk w' B cs T ∧ Chg (fun k => k = B) w w')
    (hc0 : ∃ n, cs[0]? = some (.int .i16 n)) (hlen : (decide (1 + ssz fl fs ≤ cs.length) && repSB fl fs (dfltL fs) ((cs.drop 1).take (ssz fl fs))) = true) : NewsPtr fn fl fs := by
  intro w
  simp only [Bool.and_eq_true, decide_eq_true_eq] at hlt hlen
  obtain ⟨⟨l1, l2⟩, l3⟩ := hlt
  refine zaA hfn hbody hres hN (by simp) ?_
  intro a hN hD ha
  refine wp_seq_k fun K hK => ?_
  refine zai ?_
  refine zat ?_
  refine zag (hK _ _ ?_)
  clear hK K
  refine wp_seq_k fun K hK => ?_
  refine zai ?_
  refine wl_allocA hz fun w1 hc hb hs => ?_
  refine zag (hK _ _ ?_)
  clear hK K
  refine wp_seq_k fun K hK => ?_
  refine zai ?_
  refine zaD hen (by simp only [List.map_toArray, List.map_cons, List.map_nil, zaj, zak, hN, zac, l2]; exact hdef w1 _ hb) ?_
  rintro v w2 ⟨hb2, hc2⟩
  refine zag (hK _ _ ?_)
  clear hK K
  refine wp_seq_k fun K hK => ?_
  refine zai ?_
  refine zat ?_
  refine zag (hK _ _ ?_)
  refine wp_ret ⟨by simp [zaf, hD], ?_⟩
  simp only [zaj, zak, hN, zac, l1, l2, zae l3]
  exact ⟨by first | rfl | trivial, hc.trans hc2 fun n hn h => by omega, cs, T, hb2, hc0, hlen.1, hlen.2⟩
def SetsVersion (fn : FuncId) : Prop := ∀ (w : World) (B : Nat) (cs : List Value) (T : TypeId) (ver : Int), Blk w B cs T → 1 ≤ cs.length →
  zaG Try.prog fn #[.pointer (some ⟨B, 0, none⟩), .int .i16 ver] w fun _ w' => Blk w' B (splice cs 0 [.int .i16 ver]) T ∧ Chg (fun k => k = B) w w'
theorem setver_of {fn : FuncId} {func : Func} {T t4 t5 t6 t7 ty N r0 : Nat} {y0 y1 y2 y3 y4 : TypeId} {q0 q1 q2 q3 q4 : String} {e0 e1 e2 e3 e4 : Array Edge}
    (hfn : (Try.prog).funcs[fn]? = some func)
    (hbody : func.body = some (.region r0 #[⟨some t4, .move (.tmp 0), y0, q0, e0, none⟩, ⟨some t5, .move (.tmp 1), y1, q1, e1, none⟩, ⟨some t6, .nilCheck (.tmp t4), y2, q2, e2, none⟩, ⟨some t7, .fieldAddr T (.tmp t6) 0, y3, q3, e3, none⟩, ⟨none, .store ty (.tmp t7) (.tmp t5), y4, q4, e4, none⟩] false))
    (hres : func.results = #[]) (hN : func.ntmps = N) (hB : (fieldB Try.prog T 0 0 1 && sizeB Try.prog ty 1 && decide ([0, 1, t4, t5, t6, t7].Nodup) && [1, t4, t5, t6, t7].all (fun t => decide (t < N))) = true) : SetsVersion fn := by
  intro w B cs Tb ver hb hlen
  simp only [Bool.and_eq_true, decide_eq_true_eq, List.all_eq_true] at hB
  obtain ⟨⟨⟨b1, b2⟩, hnd⟩, hlt⟩ := hB
  simp only [List.nodup_cons, List.mem_cons, List.not_mem_nil, or_false, not_or, List.nodup_nil, and_true, not_false_eq_true, forall_eq_or_imp, forall_eq] at hnd hlt
  refine callsR_of0 hfn hbody hres hN (by simp; omega) ?_
  intro a hN hD ha
  have h0 : get a 0 = .pointer (some ⟨B, 0, none⟩) := ha 0 _ rfl
  have h1 : get a 1 = .int .i16 ver := ha 1 _ rfl
  refine zai ?_
  refine zaJ ?_
  refine zaJ ?_
  simp only [zaj, zah, zac, zab, zae, ne_eq, zak, hN, hnd, hlt, not_false_eq_true, h0, h1]
  refine wl_nilCheck (p := ⟨B, 0, none⟩) (by simp only [zaj, zah, zac, zab, zae, ne_eq, zak, hN, hnd, hlt, not_false_eq_true, h0]) ?_
  refine zaM (b := B) (o := 0) b1 (by simp only [zaj, zah, zac, zab, zae, ne_eq, zak, hN, hnd, hlt, not_false_eq_true, h0]) ?_
  refine wl_store (b := B) (o := 0 + 0) (n := 1) (v := .int .i16 ver) b2 (by simp only [zaj, zah, zac, zab, zae, ne_eq, zak, hN, hnd, hlt, not_false_eq_true, h0]) (by simp only [zaj, zah, zac, zab, zae, ne_eq, zak, hN, hnd, hlt, not_false_eq_true, h0]) hb rfl (by intro y hy; simp only [Value.cells, List.mem_singleton] at hy; subst hy; rfl) (by omega) fun w1 hb1 hc1 => ?_
  refine zag ⟨by simp [zaf, hD], hb1, hc1⟩
theorem maxver_of {fn : FuncId} {func : Func} {r N r0 r1 : Nat} {y0 y1 : TypeId} {q0 q1 : String} {e0 e1 : Array Edge} {k m : Int}
    (hfn : (Try.prog).funcs[fn]? = some func)
    (hbody : func.body = some (.seq (.region r0 #[⟨some r, .assign (.const (.int .i16 k)), y0, q0, e0, none⟩] false) (.seq (.region r1 #[⟨some r, .assign (.const (.int .i16 m)), y1, q1, e1, none⟩] false) .ret)))
    (hres : func.results = #[.tmp r]) (hN : func.ntmps = N) (hlt : (decide (r < N) && decide (1 ≤ N)) = true) (x : Value) (w : World) : zaG Try.prog fn #[x] w fun v w' => v = .int .i16 m ∧ w' = w := by
  simp only [Bool.and_eq_true, decide_eq_true_eq] at hlt
  refine zaA hfn hbody hres hN (by simpa using hlt.2) ?_
  intro a hN hD ha
  refine wp_seq_k fun K hK => ?_
  refine zai ?_
  refine zat ?_
  refine zag (hK _ _ ?_)
  clear hK K
  refine wp_seq_k fun K hK => ?_
  refine zai ?_
  refine zat ?_
  refine zag (hK _ _ ?_)
  refine wp_ret ⟨by simp [zaf, hD], ?_, rfl⟩
  simp only [zah, zak, hN, zac, hlt.1]
theorem below_of {w w' : World} (h : Chg (fun _ => False) w w') : Below w.heap.size w w' := (h.mono fun _ _ h => h.elim : Chg (fun k => w.heap.size ≤ k) w w').below (Nat.le_refl _)
end Go.Proofs.Ytiohfpnpnofimaa
namespace Go.Proofs.Ytiohfpnpnofimaa
set_option linter.all false
open Go.RowKit
set_option maxRecDepth 10000
mutual
theorem trok_defF : ∀ {f : Fld}, okF f = true → TROK (sDefF f)
  | .mk k a b nl tg df of sub, h => by
    unfold okF at h
    simp only [Bool.and_eq_true, decide_eq_true_eq] at h
    unfold sDefF dfNode TROK
    refine ⟨tagOK_nil, by simp, ?_, by simp, ?_⟩
    · split
      · rw [sDefL_len]; unfold LIM; omega
      · simp
    · split
      · exact trok_defL h.1.2
      · unfold TRLOK; trivial
theorem trok_defL : ∀ {fs : List Fld}, okL fs = true → TRLOK (sDefL fs)
  | [], _ => by unfold sDefL TRLOK; trivial
  | f :: r, h => by
    unfold okL at h
    simp only [Bool.and_eq_true] at h
    unfold sDefL TRLOK
    exact ⟨trok_defF h.1, trok_defL h.2⟩
end
theorem trok_def {fs : List Fld} (h : okL fs = true) (hl : fs.length ≤ 1073741824) : TROK (sDef fs) := by
  unfold sDef TROK
  exact ⟨tagOK_nil, by simp, by rw [sDefL_len]; unfold LIM; omega, by simp, trok_defL h⟩
theorem Octs.keep {w w1 w2 : World} {v : Value} {l : Bs} (h : Octs w v l w1) (c : Chg (fun _ => False) w1 w2) : Octs w v l w2 := ⟨h.1.chg c fun _ _ h => h, h.2.trans c fun _ _ h => h⟩
theorem Octs.of_app {w w1 : World} {v : Value} {bs : Bs} (h : App eB w w.heap.size (.slice none 0 0) ([] ++ bs) v w1) : Octs w v bs w1 :=
  ⟨h.own, h.chg.mono fun n hn hk => by simp [Value.ownBlock] at hk⟩
def newEq (fs : List Fld) (c : Int) (k : Nat) : Bool := (List.range (k + 1)).all fun v => decide (encPart (decide (c ≤ (v : Int))) v fs ⟨dfltL fs, []⟩ = sPart (decide (0 ≤ c) && decide (c ≤ (v : Int))) v fs (sDef fs)) && decide ((encPart (decide (c ≤ (v : Int))) v fs ⟨dfltL fs, []⟩).length ≤ 1048576)
theorem newEq_out {fs : List Fld} {c : Int} {k : Nat} (h : newEq fs c k = true) {ver : Int} (h0 : 0 ≤ ver) (h1 : ver ≤ k) :
    encPart (decide (c ≤ ver)) ver fs ⟨dfltL fs, []⟩ = sPart (decide (0 ≤ c) && decide (c ≤ ver)) ver fs (sDef fs) ∧ (encPart (decide (c ≤ ver)) ver fs ⟨dfltL fs, []⟩).length ≤ 1048576 := by
  unfold newEq at h
  rw [List.all_eq_true] at h
  have := h ver.toNat (by rw [List.mem_range]; omega)
  rw [Int.toNat_of_nonneg h0] at this
  simpa only [Bool.and_eq_true, decide_eq_true_eq] using this
end Go.Proofs.Ytiohfpnpnofimaa
namespace Go.Proofs.Ytiohfpnpnofimaa
set_option linter.all false
open Go.RowKit
set_option maxRecDepth 10000
theorem wp_loop1 {P : Program} {c : Code} {Q : Exit → Act → World → Prop} {a : Act} {w : World} (h : c.wp P (fun e a' w' => match e with | .normal => False | e => Q e a' w') a w) : (Code.loop c).wp P Q a w :=
  wp_loop (fun a' w' => a' = a ∧ w' = w) (fun _ _ => 0) ⟨rfl, rfl⟩ (by
    rintro a' w' ⟨rfl, rfl⟩
    exact wp_mono h (by intro e a2 w2 hq; cases e <;> first | exact hq.elim | exact hq))
section
variable {E : WEnv} {m k : Nat} {y0 y1 y2 y3 y4 y5 y6 y7 y8 y9 y10 y11 y12 y13 y14 y15 y16 y17 y18 y19 y20 y21 y22 y23 y24 y25 y26 y27 y28 y29 y30 y31 y32 y33 y34 y35 y36 y37 y38 y39 : TypeId} {q0 q1 q2 q3 q4 q5 q6 q7 q8 q9 q10 q11 q12 q13 q14 q15 q16 q17 q18 q19 q20 q21 q22 q23 q24 q25 q26 q27 q28 q29 q30 q31 q32 q33 q34 q35 q36 q37 q38 q39 : String} {e0 e1 e2 e3 e4 e5 e6 e7 e8 e9 e10 e11 e12 e13 e14 e15 e16 e17 e18 e19 e20 e21 e22 e23 e24 e25 e26 e27 e28 e29 e30 e31 e32 e33 e34 e35 e36 e37 e38 e39 : Array Edge} {r0 r1 r2 r3 r4 r5 : Nat}
theorem app_flexP {Pq : S → Prop} {fn : FuncId} {func : Func} {N r sV sF t0 t1 t2 t3 t4 t5 t6 t7 T ty u : Nat} {i0 i1 : Nat} {vf : Int} {fs : List Fld} {c : Code}
    (hfn : (Try.prog).funcs[fn]? = some func)
    (hbody : func.body = some (.seq (.region r0 #[⟨some r, .assign (.const (.slice none i0 i1)), y0, q0, e0, none⟩] false) (.seq (.region r1 #[⟨some t0, .move (.tmp 0), y1, q1, e1, none⟩, ⟨some t1, .nilCheck (.tmp t0), y2, q2, e2, none⟩, ⟨some t2, .fieldAddr T (.tmp t1) 0, y3, q3, e3, none⟩, ⟨some t3, .load ty (.tmp t2), y4, q4, e4, none⟩, ⟨some sV, .assign (.tmp t3), y5, q5, e5, none⟩] false)
      (.seq (.region r2 #[⟨some t4, .move (.tmp sV), y6, q6, e6, none⟩] false) (.seq (.region r3 #[⟨some t5, .move (.tmp sV), y7, q7, e7, none⟩, ⟨some t6, .binOp .geq u (.tmp t5) (.const (.int .i16 vf)) u, y8, q8, e8, none⟩, ⟨some sF, .assign (.tmp t6), y9, q9, e9, none⟩] false) (.seq (.region r4 #[⟨some t7, .move (.tmp sF), y10, q10, e10, none⟩] false) c))))))
    (hres : func.results = #[.tmp r]) (hN : func.ntmps = N) (hF : (fieldB Try.prog T 0 0 1 && scalB Try.prog ty && decide (2 ≤ N) && decide ((0 :: 1 :: [r, t0, t1, t2, t3, t4, t5, t6, t7, sV, sF]).Nodup) && [r, t0, t1, t2, t3, t4, t5, t6, t7, sV, sF].all (fun t => decide (t < N))) = true)
    (h : ∀ (ver : Int) (s : S), Pq s → 0 ≤ ver → WrT ⟨N, t0, sV, sF, ver, decide (vf ≤ ver), true⟩ (sF + 1) t0 r c (PrS ⟨N, t0, sV, sF, ver, decide (vf ≤ ver), true⟩ 0 1 fs s) (partEnc ⟨N, t0, sV, sF, ver, decide (vf ≤ ver), true⟩ fs s)) :
    ∀ (s : S), Pq s → ∀ (ver : Int) (B : Nat) (w : World) (base : Nat) (v : Value) (bs : Bs), 0 ≤ ver → (∃ cs T, Blk w B cs T ∧ cs[0]? = some (.int .i16 ver)) → At w (fun g => g < base) true fs s B 1 → B < base → base ≤ w.heap.size →
    Own eB w base v bs → bs.length + (encPart (decide (vf ≤ ver)) ver fs s).length ≤ LIM →
    zaG Try.prog fn #[.pointer (some ⟨B, 0, none⟩), v] w (App eB w base v (bs ++ encPart (decide (vf ≤ ver)) ver fs s)) := by
  simp only [Bool.and_eq_true, decide_eq_true_eq, List.all_eq_true] at hF
  obtain ⟨⟨⟨⟨f1, f2⟩, f3⟩, hnd⟩, hlt⟩ := hF
  simp only [List.nodup_cons, List.mem_cons, List.not_mem_nil, or_false, not_or, List.nodup_nil, and_true, not_false_eq_true, forall_eq_or_imp, forall_eq] at hnd hlt
  intro s hPq ver B w base v bs hver hb0 hat hB hbase hown hlim
  obtain ⟨cs, Tb, hblk, hc0⟩ := hb0
  refine zaA hfn hbody hres hN (by simpa using f3) ?_
  intro a hN hD ha
  have h0 : get a 0 = .pointer (some ⟨B, 0, none⟩) := ha 0 _ rfl
  have h1 : get a 1 = v := ha 1 _ rfl
  have hfr : True := trivial
  refine wp_seq_k fun K hK => ?_
  refine zai ?_
  refine zat ?_
  refine zag (hK _ _ ?_)
  clear hK K
  refine wp_seq_k fun K hK => ?_
  refine zai ?_
  refine zaJ ?_
  simp only [zaj, zah, zac, zab, zae, ne_eq, zak, hN, hnd, hlt, not_false_eq_true, h0]
  refine wl_nilCheck (p := ⟨B, 0, none⟩) (by simp only [zaj, zah, zac, zab, zae, ne_eq, zak, hN, hnd, hlt, not_false_eq_true, h0]) ?_
  refine zaM (b := B) (o := 0) f1 (by simp only [zaj, zah, zac, zab, zae, ne_eq, zak, hN, hnd, hlt, not_false_eq_true, h0]) ?_
  refine zaE (b := B) (o := 0 + 0) f2 (by simp only [zaj, zah, zac, zab, zae, ne_eq, zak, hN, hnd, hlt, not_false_eq_true, h0]) hblk hc0 ?_
  refine zat ?_
  simp only [zaj, zah, zac, zab, zae, ne_eq, zak, hN, hnd, hlt, not_false_eq_true, h0]
  refine zag (hK _ _ ?_)
  clear hK K
  refine wp_seq_k fun K hK => ?_
  refine zai ?_
  refine zaJ ?_
  simp only [zaj, zah, zac, zab, zae, ne_eq, zak, hN, hnd, hlt, not_false_eq_true, h0]
  refine zag (hK _ _ ?_)
  clear hK K
  refine wp_seq_k fun K hK => ?_
  refine zai ?_
  refine zaJ ?_
  simp only [zaj, zah, zac, zab, zae, ne_eq, zak, hN, hnd, hlt, not_false_eq_true, h0]
  refine wl_geq (by simp only [zaj, zah, zac, zab, zae, ne_eq, zak, hN, hnd, hlt, not_false_eq_true, h0, sameK, decide_true]) ?_
  simp only [zaj, zah, zac, zab, zae, ne_eq, zak, hN, hnd, hlt, not_false_eq_true, h0, cmp2]
  refine zat ?_
  simp only [zaj, zah, zac, zab, zae, ne_eq, zak, hN, hnd, hlt, not_false_eq_true, h0]
  refine zag (hK _ _ ?_)
  clear hK K
  refine wp_seq_k fun K hK => ?_
  refine zai ?_
  refine zaJ ?_
  simp only [zaj, zah, zac, zab, zae, ne_eq, zak, hN, hnd, hlt, not_false_eq_true, h0]
  refine zag (hK _ _ ?_)
  clear hK K
  have he : partEnc ⟨N, t0, sV, sF, ver, decide (vf ≤ ver), true⟩ fs s = encPart (decide (vf ≤ ver)) ver fs s := partEnc_eq _ _ _
  rw [← he] at hlim ⊢
  refine h ver s hPq hver _ w base v bs ⟨by simp only [zak, hN], by simp only [zaf, hD], ?_, fun _ => ?_⟩ ?_ hown hbase ⟨B, 0, ?_, ?_, hB⟩ hlim
  · simp only [zaj, zah, zac, zab, zae, ne_eq, zak, hN, hnd, hlt, not_false_eq_true, h0]
  · simp only [zaj, zah, zac, zab, zae, ne_eq, zak, hN, hnd, hlt, not_false_eq_true, h0]
  · simp only [zaj, zah, zac, zab, zae, ne_eq, zak, hN, hnd, hlt, not_false_eq_true, h1]
  · simp only [zaj, zah, zac, zab, zae, ne_eq, zak, hN, hnd, hlt, not_false_eq_true, h0]
  · exact hat
end
end Go.Proofs.Ytiohfpnpnofimaa
