import Derived.Test.YtnjjfpgpookjlaaGreatDoorZA
import Derived.Test.YtnjjfpgpookjlaaGreatDoorZI
import Derived.Test.YtnjjfpgpookjlaaGreatDoorZL
import Derived.Test.YtnjjfpgpookjlaaGreatDoorZS
import Derived.Test.YtnjjfpgpookjlaaGreatDoorZK
import Derived.Test.YtnjjfpgpookjlaaGreatDoorZU
import Derived.Test.YtnjjfpgpookjlaaGreatDoorZM
import Derived.Test.YtnjjfpgpookjlaaGreatDoorRows
import Derived.Deep.Slices
import Derived.ChangeSlices
import Derived.ChangeSame
/-
What the proofs of the laws rest on, part ZN.
-/
namespace Go.Proofs.YtnjjfpgpookjlaaGreatDoor
set_option linter.all false
set_option maxRecDepth 10000
open Go.RowKit Go.ChangeShapes
open Go.RowKit
set_option maxHeartbeats 1000000
theorem cell_at {w : World} {a : Addr} {v : Value} (h : w.cell? a = some v) : a.spot = none ∧ ∃ l T, Rbk w a.block l T ∧ l[a.off]? = some v := by
 unfold World.cell? at h
 split at h
 ·rename_i c T fz hc
  split at h
  ·cases h
  ·rename_i hs
   exact ⟨by simpa using hs, c.toList, T, ⟨fz, by simpa using hc⟩, by simpa using h⟩
 ·cases h
theorem add_block (a : Addr) (n : Nat) : (a.add n).block = a.block := by unfold Addr.add; split <;> rfl
theorem add_off (a : Addr) (n : Nat) : (a.add n).off = a.off + n := by unfold Addr.add; split <;> simp_all
theorem cells_at {w : World} {base : Nat} {a : Addr} {n : Nat} {cs : List Value} (h : w.cells? base a n = some cs) (hn : 0 < n) : a.spot = none ∧ cs.length = n ∧ ∃ l T, Rbk w a.block l T ∧ (l.drop a.off).take n = cs := by
 obtain ⟨_, h2, h3⟩ := World.cells?_some h
 have h0 := h3 0 hn
 obtain ⟨v0, hv0⟩ : ∃ v, cs[0]? = some v := ⟨_, List.getElem?_eq_getElem (by omega)⟩
 rw [hv0] at h0
 have ha0 : a.add 0 = a := rfl
 rw [ha0] at h0
 obtain ⟨k1, l, T, k2, k3⟩ := cell_at h0
 refine ⟨k1, h2, l, T, k2, ?_⟩
 apply List.ext_getElem?
 intro i
 by_cases hi : i < n
 ·rw [seg_get hi]
  have hvi := h3 i hi
  obtain ⟨v, hv⟩ : ∃ v, cs[i]? = some v := ⟨_, List.getElem?_eq_getElem (by omega)⟩
  rw [hv] at hvi ⊢
  obtain ⟨_, l', T', q2, q3⟩ := cell_at hvi
  rw [add_block] at q2
  rw [add_off] at q3
  rw [(k2.inj q2).1]; exact q3
 ·rw [List.getElem?_eq_none (by rw [List.length_take]; omega), List.getElem?_eq_none (by omega)]
theorem row_at {w : World} {base k len : Nat} {a : Addr} {C : Nat → List Value} (h : ∀ i, i < len → w.cells? base (a.add (i * k)) k = some (C i)) (hk : 0 < k) (hl : 0 < len) :
  a.spot = none ∧ ∃ l T, Rbk w a.block l T ∧ ∀ i, i < len → (l.drop (a.off + i * k)).take k = C i := by
 obtain ⟨h1, _, l, T, h2, _⟩ := cells_at (h 0 hl) hk
 have ha0 : a.add (0 * k) = a := by rw [Nat.zero_mul]; rfl
 rw [ha0] at h1 h2
 refine ⟨h1, l, T, h2, fun i hi => ?_⟩
 obtain ⟨_, _, l', T', q2, q3⟩ := cells_at (h i hi) hk
 rw [add_block] at q2
 rw [add_off] at q3
 rw [(h2.inj q2).1]; exact q3
section
variable {H : Type} {enc : TypeId × Value → H} {w : World} {base : Nat} {spare : Nat → Bool} {held : Bool}
theorem bulkAll_lits {k : IntKind} : ∀ (zs : List Int), Rows.uptoBulkAll (H := H) (lits k zs) = zs.length
 | [] => by simp [lits, Rows.uptoBulkAll]
 | z :: r => by
  have := bulkAll_lits (k := k) r
  simp only [lits, List.map_cons] at this ⊢
  simp only [Rows.uptoBulkAll, Rows.uptoBulk, this, List.length_cons]; omega
theorem bytes_of {fuel : Nat} {cs : List Value} {x : DataW H × List MemPlace} (h : DataW.trod enc Tryz.prog w base spare held fuel 22 cs = some x) :
  ∃ oa cap bs, cs = [.slice oa bs.length cap] ∧ bs.length ≤ cap ∧ zav w (fun _ => True) oa bs ∧ bs.length + 1 ≤ Rows.uptoBulk x.1 := by
 rcases open_ints Tryz.underlying22 Tryz.underlying5 (by kernel_rfl) h with ⟨rfl, rfl⟩ | ⟨a, len, cap, zs, rfl, _, hlc, _, hz, rfl, hcell, hwf⟩
 ·exact ⟨none, 0, [], rfl, Nat.le_refl _, .inl rfl, by simp [Rows.uptoBulk]⟩
 ·have hlz : len ≤ zs.length := by rw [hz]; split <;> omega
  have hlen : ((zs.take len).map fun z => UInt8.ofNat z.toNat).length = len := by rw [List.length_map, List.length_take]; omega
  refine ⟨some a, cap, (zs.take len).map fun z => UInt8.ofNat z.toNat, by rw [hlen], by rw [hlen]; exact hlc, ?_, ?_⟩
  ·by_cases h0 : len = 0
   ·left; subst h0; simp
   ·obtain ⟨k1, l, T, k2, k3⟩ := row_at (k := 1) (len := len) (C := fun i => [.int .u8 (zs.getD i 0)]) (fun i hi => cells?_one (by rw [add_block]; assumption) (by rw [Nat.mul_one]; exact hcell i (by omega))) (by decide) (by omega)
    right
    obtain ⟨ab, ao, asp⟩ := a
    simp only at k1
    subst k1
    refine ⟨ab, ao, l, T, rfl, trivial, k2, ?_⟩
    rw [hlen]
    apply List.ext_getElem?
    intro i
    by_cases hi : i < len
    ·rw [seg_get hi]
     have e := k3 i hi
     simp only [Nat.mul_one] at e
     have e0 := congrArg (·[0]?) e
     simp only [List.getElem?_cons_zero] at e0
     rw [List.getElem?_take_of_lt (by omega), List.getElem?_drop, Nat.add_zero] at e0
     rw [e0, List.getElem?_map, List.getElem?_map, List.getElem?_take_of_lt hi]
     have hzi : zs[i]? = some (zs.getD i 0) := by rw [List.getD, List.getElem?_eq_getElem (by omega)]; simp
     clear e e0 k3
     generalize zs.getD i 0 = z at hzi ⊢
     rw [hzi]
     have hr := hwf _ (List.mem_of_getElem? hzi)
     simp only [Lit.wf, IntKind.min, IntKind.max, IntKind.signed, IntKind.bits, Bool.and_eq_true, decide_eq_true_eq] at hr
     simp only [Option.map_some, zaQ]
     congr 2
     simp at hr
     simp only [UInt8.toNat_ofNat']
     omega
    ·rw [List.getElem?_eq_none (by rw [List.length_take]; omega), List.getElem?_eq_none (by rw [List.length_map, hlen]; omega)]
  ·rw [hlen]
   simp only [Rows.uptoBulk, bulkAll_lits, List.length_take, List.length_drop]
   omega
end
set_option maxHeartbeats 1000000
theorem choose_list {α : Type} : ∀ (n : Nat) (P : Nat → α → Prop), (∀ i, i < n → ∃ y, P i y) → ∃ l : List α, l.length = n ∧ ∀ i y, l[i]? = some y → P i y
 | 0, P, _ => ⟨[], rfl, fun i y h => by simp at h⟩
 | n + 1, P, h => by
  obtain ⟨l, h1, h2⟩ := choose_list n P fun i hi => h i (by omega)
  obtain ⟨y, hy⟩ := h n (by omega)
  refine ⟨l ++ [y], by simp [h1], fun i z hz => ?_⟩
  by_cases hi : i < n
  ·rw [List.getElem?_append_left (by omega)] at hz; exact h2 i z hz
  ·rw [List.getElem?_append_right (by omega), h1] at hz
   have : i = n := by
    have := (List.getElem?_eq_some_iff.1 hz).1
    simp at this; omega
   subst this
   simp at hz; subst hz; exact hy
theorem TrL.of {w : World} {G : Nat → Prop} : ∀ {l : List Tr} {vs : List Value}, (∀ i x, l[i]? = some x → TrC w G x ((vs.drop (i * 5)).take 5)) → TrL w G l vs
 | [], _, _ => by unfold TrL; trivial
 | x :: r, vs, h => by
  unfold TrL
  refine ⟨by simpa using h 0 x rfl, TrL.of fun i y hy => ?_⟩
  have := h (i + 1) y (by simpa using hy)
  rw [List.drop_drop, show 5 + i * 5 = (i + 1) * 5 by omega]
  exact this
theorem sum_tags {H : Type} : ∀ (t : za5) (D : Nat → DataW H) (o : Nat), (∀ i y, t[i]? = some y → y.2.length + 2 ≤ Rows.uptoBulk (D (o + i))) → zbk t ≤ Rows.uptoBulkAll ((List.range t.length).map fun i => D (o + i))
 | [], D, o, _ => by simp [zbk]
 | y :: r, D, o, h => by
  have h0 := h 0 y rfl
  have ih := sum_tags r D (o + 1) fun i z hz => by
   have := h (i + 1) z (by simpa using hz)
   rwa [show o + (i + 1) = o + 1 + i by omega] at this
  rw [List.length_cons, List.range_succ_eq_map, List.map_cons, List.map_map]
  unfold zbk Rows.uptoBulkAll
  have e : ((fun i => D (o + i)) ∘ Nat.succ) = fun i => D (o + 1 + i) := by
   funext i; show D (o + (i + 1)) = _; congr 1; omega
  rw [e]
  simp only [Nat.add_zero] at h0 ⊢
  omega
theorem sum_trees {H : Type} : ∀ (t : List Tr) (D : Nat → DataW H) (o : Nat), (∀ i y, t[i]? = some y → za8 y ≤ Rows.uptoBulk (D (o + i))) → zbt t ≤ Rows.uptoBulkAll ((List.range t.length).map fun i => D (o + i))
 | [], D, o, _ => by simp [zbt]
 | y :: r, D, o, h => by
  have h0 := h 0 y rfl
  have ih := sum_trees r D (o + 1) fun i z hz => by
   have := h (i + 1) z (by simpa using hz)
   rwa [show o + (i + 1) = o + 1 + i by omega] at this
  rw [List.length_cons, List.range_succ_eq_map, List.map_cons, List.map_map]
  unfold zbt Rows.uptoBulkAll
  have e : ((fun i => D (o + i)) ∘ Nat.succ) = fun i => D (o + 1 + i) := by
   funext i; show D (o + (i + 1)) = _; congr 1; omega
  rw [e]
  simp only [Nat.add_zero] at h0 ⊢
  omega
section
variable {H : Type} {enc : TypeId × Value → H} {w : World} {base : Nat} {spare : Nat → Bool} {held : Bool}
theorem tag_of {fuel : Nat} {cs : List Value} {x : DataW H × List MemPlace} (h : DataW.trod enc Tryz.prog w base spare held fuel 59 cs = some x) :
  ∃ y : Nat × Bs, TgC w (fun _ => True) y cs ∧ y.2.length + 2 ≤ Rows.uptoBulk x.1 := by
 obtain ⟨y0, y1, n, rfl, hl, h0, h1⟩ := trod_struct2 Tryz.underlying59 h
 have c2 : (Tryz.prog).cellsOf 59 = 2 := by kernel_rfl
 have c1 : (Tryz.prog).cellsOf 57 = 1 := by kernel_rfl
 have c1' : (Tryz.prog).cellsOf 22 = 1 := by kernel_rfl
 rw [c2] at hl
 simp only [c1, c1'] at h0 h1
 obtain ⟨z, e0, e1, hz⟩ := DataW.trod_int Tryz.underlying57 h0
 obtain ⟨oa, cap, bs, e2, k1, k2, k3⟩ := bytes_of h1
 match cs, hl with
 | [a, b], _ =>
  simp at e0 e2
  subst e0 e2 e1
  simp only [Lit.wf, IntKind.min, IntKind.max, IntKind.signed, IntKind.bits, Bool.and_eq_true, decide_eq_true_eq] at hz
  simp at hz
  refine ⟨(z.toNat, bs), ⟨oa, cap, ?_, by show z.toNat < _; omega, k1, k2⟩, ?_⟩
  ·show [_, _] = [Value.int .u32 ((z.toNat : Nat) : Int), _]
   rw [Int.toNat_of_nonneg hz.1]
  ·simp only [Rows.uptoBulk, Rows.uptoBulkAll]
   show bs.length + 2 ≤ _
   omega
theorem tags_of {fuel : Nat} {cs : List Value} {x : DataW H × List MemPlace} (h : DataW.trod enc Tryz.prog w base spare held fuel 24 cs = some x) :
  ∃ (t : za5) (v : Value), cs = [v] ∧ TgS w (fun _ => True) t v ∧ zbk t + 1 ≤ Rows.uptoBulk x.1 := by
 have c2 : (Tryz.prog).cellsOf 59 = 2 := by kernel_rfl
 rcases Go.Deep.open_slice Tryz.underlying24 h with ⟨rfl, rfl⟩ | ⟨a, len, cap, m, n, D, Pl, rfl, _, hlc, _, hm, rfl, hel⟩
 ·exact ⟨[], _, rfl, ⟨none, 0, rfl, Nat.le_refl _, .inl rfl⟩, by simp [Rows.uptoBulk, zbk]⟩
 ·rw [c2] at hel
  have hlm : len ≤ m := by rw [hm]; split <;> omega
  obtain ⟨t, ht1, ht2⟩ := choose_list len (fun i (y : Nat × Bs) => ∃ cs', w.cells? base (a.add (i * 2)) 2 = some cs' ∧ TgC w (fun _ => True) y cs' ∧ y.2.length + 2 ≤ Rows.uptoBulk (D i)) fun i hi => by
   obtain ⟨cs', e1, e2⟩ := hel i (by omega)
   obtain ⟨y, k1, k2⟩ := tag_of e2
   exact ⟨y, cs', e1, k1, k2⟩
  refine ⟨t, _, rfl, ⟨some a, cap, by rw [ht1], by omega, ?_⟩, ?_⟩
  ·by_cases h0 : len = 0
   ·left; exact List.eq_nil_of_length_eq_zero (by omega)
   ·obtain ⟨C, hC⟩ : ∃ C : Nat → List Value, ∀ i, i < len → w.cells? base (a.add (i * 2)) 2 = some (C i) := ⟨fun i => (w.cells? base (a.add (i * 2)) 2).getD [], fun i hi => by
     obtain ⟨cs', e1, _⟩ := hel i (by omega)
     dsimp only; rw [e1]; rfl⟩
    obtain ⟨k1, l, T, k2, k3⟩ := row_at hC (by decide) (by omega)
    obtain ⟨ab, ao, asp⟩ := a
    simp only at k1
    subst k1
    refine .inr ⟨ab, ao, l, T, rfl, trivial, k2, TgL.of fun i y hy => ?_⟩
    have hi : i < len := by rw [← ht1]; exact (List.getElem?_eq_some_iff.1 hy).1
    obtain ⟨cs', e1, e2, _⟩ := ht2 i y hy
    rw [List.drop_drop, k3 i hi]
    rw [hC i hi] at e1
    cases e1
    exact e2
  ·have := sum_tags t D 0 fun i y hy => by
    obtain ⟨_, _, _, e3⟩ := ht2 i y hy
    rw [Nat.zero_add]; exact e3
   simp only [Nat.zero_add, ht1] at this
   have e : zbk t ≤ Rows.uptoBulkAll ((List.range len).map D) := this
   simp only [Rows.uptoBulk]
   omega
theorem mem_bulk : ∀ {l : List (DataW H)} {d : DataW H}, d ∈ l → Rows.uptoBulk d ≤ Rows.uptoBulkAll l
 | [], d, h => by cases h
 | y :: r, d, h => by
  unfold Rows.uptoBulkAll
  rcases List.mem_cons.1 h with rfl | h
  ·omega
  ·have := mem_bulk h; omega
theorem keyL_of : ∀ {l : List Tr}, (∀ (i : Nat) (v : Tr), l[i]? = some v → keyV v) → keyL l
 | [], _ => by unfold keyL; trivial
 | v :: r, h => by unfold keyL; exact ⟨h 0 v rfl, keyL_of fun i x hx => h (i + 1) x (by simpa using hx)⟩
theorem TgL.keys {w : World} {G : Nat → Prop} : ∀ {t : za5} {vs : List Value}, TgL w G t vs → ∀ x ∈ t, x.1 < 4294967296
 | [], _, _, x, hx => by cases hx
 | y :: r, vs, ⟨⟨_, _, _, h2, _⟩, h5⟩, x, hx => by
  rcases List.mem_cons.1 hx with rfl | hx
  ·exact h2
  ·exact TgL.keys h5 x hx
theorem TgS.keys {w : World} {G : Nat → Prop} {t : za5} {v : Value} (h : TgS w G t v) : ∀ x ∈ t, x.1 < 4294967296 := by
 obtain ⟨_, _, _, _, h3⟩ := h
 rcases h3 with rfl | ⟨_, _, _, _, _, _, _, h7⟩
 ·intro x hx; cases hx
 ·exact h7.keys
theorem tree_of : ∀ (N fuel : Nat) (cs : List Value) (x : DataW H × List MemPlace), Rows.uptoBulk x.1 < N → DataW.trod enc Tryz.prog w base spare held fuel 26 cs = some x →
  ∃ v, TrC w (fun _ => True) v cs ∧ keyV v ∧ za8 v ≤ Rows.uptoBulk x.1 := by
 intro N
 induction N with
 | zero => intro _ _ _ h; omega
 | succ N ih =>
  intro fuel cs x hN h
  obtain ⟨xs, n, rfl, rfl, hl, hlen, hf⟩ := DataW.trod_struct Tryz.underlying26 h
  have cT : (Tryz.prog).cellsOf 26 = 5 := by kernel_rfl
  have c0 : (Tryz.prog).cellsOf 2 = 1 := by kernel_rfl
  have c1 : (Tryz.prog).cellsOf 22 = 1 := by kernel_rfl
  have c2 : (Tryz.prog).cellsOf 4 = 1 := by kernel_rfl
  have c3 : (Tryz.prog).cellsOf 23 = 1 := by kernel_rfl
  have c4 : (Tryz.prog).cellsOf 24 = 1 := by kernel_rfl
  rw [cT] at hl
  have hlen5 : xs.length = 5 := hlen
  match xs, hlen5, cs, hl with
  | [y0, y1, y2, y3, y4], _, [a0, a1, a2, a3, a4], _ =>
   have f0 := hf 0 _ rfl
   have f1 := hf 1 _ rfl
   have f2 := hf 2 _ rfl
   have f3 := hf 3 _ rfl
   have f4 := hf 4 _ rfl
   change DataW.trod enc Tryz.prog w base spare held n 2 (([a0, a1, a2, a3, a4].drop 0).take ((Tryz.prog).cellsOf 2)) = some y0 at f0
   rw [c0] at f0
   change DataW.trod enc Tryz.prog w base spare held n 22 (([a0, a1, a2, a3, a4].drop 1).take ((Tryz.prog).cellsOf 22)) = some y1 at f1
   rw [c1] at f1
   change DataW.trod enc Tryz.prog w base spare held n 4 (([a0, a1, a2, a3, a4].drop 2).take ((Tryz.prog).cellsOf 4)) = some y2 at f2
   rw [c2] at f2
   change DataW.trod enc Tryz.prog w base spare held n 23 (([a0, a1, a2, a3, a4].drop 3).take ((Tryz.prog).cellsOf 23)) = some y3 at f3
   rw [c3] at f3
   change DataW.trod enc Tryz.prog w base spare held n 24 (([a0, a1, a2, a3, a4].drop 4).take ((Tryz.prog).cellsOf 24)) = some y4 at f4
   rw [c4] at f4
   obtain ⟨z, e0, z0, hz⟩ := DataW.trod_int Tryz.underlying2 f0
   obtain ⟨ob, cb, bs, e1, k1, k2, k3⟩ := bytes_of f1
   obtain ⟨bn, e2, z2⟩ := DataW.trod_bool Tryz.underlying4 f2
   obtain ⟨tg, vt, e4, t1, t2⟩ := tags_of f4
   have lst : ∃ (l : List Tr) (ol : Option Addr) (cl : Nat), a3 = .slice ol l.length cl ∧ l.length ≤ cl ∧ (l = [] ∨ ∃ g o cs T, ol = some ⟨g, o, none⟩ ∧ (fun _ => True) g ∧ Rbk w g cs T ∧ TrL w (fun _ => True) l (cs.drop o)) ∧ keyL l ∧ zbt l + 1 ≤ Rows.uptoBulk y3.1 := by
    change DataW.trod enc Tryz.prog w base spare held n 23 [a3] = some y3 at f3
    rcases Go.Deep.open_slice Tryz.underlying23 f3 with ⟨e3, rfl⟩ | ⟨a, len, cap, m, n', D, Pl, e3, _, hlc, _, hm, rfl, hel⟩
    ·cases e3
     exact ⟨[], none, 0, rfl, Nat.le_refl _, .inl rfl, by unfold keyL; trivial, by simp [Rows.uptoBulk, zbt]⟩
    ·cases e3
     rw [cT] at hel
     have hlm : len ≤ m := by rw [hm]; split <;> omega
     have hbD : ∀ i, i < len → Rows.uptoBulk (D i) < N := fun i hi => by
      have hm' := mem_bulk (l := (List.range len).map D) (d := D i) (List.mem_map.2 ⟨i, List.mem_range.2 hi, rfl⟩)
      simp only [List.map_cons, List.map_nil, Rows.uptoBulk, Rows.uptoBulkAll] at hN
      omega
     obtain ⟨l, ht1, ht2⟩ := choose_list len (fun i (y : Tr) => ∃ cs', w.cells? base (a.add (i * 5)) 5 = some cs' ∧ TrC w (fun _ => True) y cs' ∧ keyV y ∧ za8 y ≤ Rows.uptoBulk (D i)) fun i hi => by
      obtain ⟨cs', q1, q2⟩ := hel i (by omega)
      obtain ⟨y, k1, k2, k3⟩ := ih _ _ _ (hbD i hi) q2
      exact ⟨y, cs', q1, k1, k2, k3⟩
     refine ⟨l, some a, cap, by rw [ht1], by omega, ?_, keyL_of fun i v hv => (ht2 i v hv).choose_spec.2.2.1, ?_⟩
     ·by_cases h0 : len = 0
      ·left; exact List.eq_nil_of_length_eq_zero (by omega)
      ·obtain ⟨C, hC⟩ : ∃ C : Nat → List Value, ∀ i, i < len → w.cells? base (a.add (i * 5)) 5 = some (C i) := ⟨fun i => (w.cells? base (a.add (i * 5)) 5).getD [], fun i hi => by
        obtain ⟨cs', q1, _⟩ := hel i (by omega)
        dsimp only; rw [q1]; rfl⟩
       obtain ⟨k1', l', T, k2', k3'⟩ := row_at hC (by decide) (by omega)
       obtain ⟨ab, ao, asp⟩ := a
       simp only at k1'
       subst k1'
       refine .inr ⟨ab, ao, l', T, rfl, trivial, k2', TrL.of fun i y hy => ?_⟩
       have hi : i < len := by rw [← ht1]; exact (List.getElem?_eq_some_iff.1 hy).1
       obtain ⟨cs', q1, q2, _⟩ := ht2 i y hy
       rw [List.drop_drop, k3' i hi]
       rw [hC i hi] at q1
       cases q1
       exact q2
     ·have := sum_trees l D 0 fun i y hy => by
       obtain ⟨_, _, _, _, q3⟩ := ht2 i y hy
       rw [Nat.zero_add]; exact q3
      simp only [Nat.zero_add, ht1] at this
      have e : zbt l ≤ Rows.uptoBulkAll ((List.range len).map D) := this
      simp only [Rows.uptoBulk]
      omega
   obtain ⟨l, ol, cl, rfl, l1, l2, l3, l4⟩ := lst
   simp at e0 e1 e2 e4
   subst e0 e1 e2 e4 z0 z2
   refine ⟨.mk z bs bn l tg, ?_, ?_, ?_⟩
   ·unfold TrC
    refine ⟨ob, cb, ol, cl, _, rfl, ?_, k1, l1, k2, l2, t1⟩
    simp only [Lit.wf, IntKind.min, IntKind.max, IntKind.signed, IntKind.bits, Bool.and_eq_true, decide_eq_true_eq] at hz
    simp at hz
    exact zbi z (by omega)
   ·unfold keyV
    exact ⟨t1.keys, l3⟩
   ·simp only [List.map_cons, List.map_nil, Rows.uptoBulk, Rows.uptoBulkAll]
    unfold za8
    omega
end
set_option maxHeartbeats 1000000
def trLen : Tr → Nat | .mk _ _ _ _ t => t.length
def IsBool (w : World) (v : Value) (w' : World) : Prop := (∃ b, v = .bool b) ∧ Chg (fun _ => False) w w'
theorem fits4_c (x : Nat × Bs) {w : World} {ob : Option Addr} {cb : Nat} : zaF Tryz.prog 30 #[zaZ [.int .u32 x.1, .slice ob x.2.length cb]] w (IsBool w) := by
 refine zaq Tryz.func30 rfl rfl Tryz.ntmps30 (by simp) ?_
 intro a hN hD ha
 have h0 : get a 0 = zaZ [.int .u32 x.1, .slice ob x.2.length cb] := ha 0 _ rfl
 refine qsr fun K hK => ?_
 refine wl_boxA (l := [.int .u32 x.1, .slice ob x.2.length cb]) (by simp [qed, hN, h0]) fun w1 hc hb hs => ?_
 have l1 := hb.ld (i := 1) rfl
 (repeat ((with_reducible refine zaJ ?_ ?_ ?_); (· simp [qef, hN] <;> omega); (· kernel_rfl); try simp only [qec, hN, seval])); refine zaa (hK _ _ ?_); clear hK K
 refine qsk fun K hK => ?_; refine qsr fun K0 hK0 => ?_
 have f2 : fOff Tryz.prog 59 1 = 1 := by kernel_rfl
 (repeat ((with_reducible refine zaJ ?_ ?_ ?_); (· simp [qef, hN, l1, f2] <;> omega); (· kernel_rfl); try simp only [qec, hN, seval, l1, f2]))
 refine zaa ?_
 refine hK0 _ _ ?_; try clear hK0 K0
 by_cases hl : (2147483647 : Int) < x.2.length
 ·refine wp_cond_true (by simp [qed, hN, hl]) ?_
  refine qsr fun K hK => ?_; (repeat ((with_reducible refine zaJ ?_ ?_ ?_); (· simp [qef, hN] <;> omega); (· kernel_rfl); try simp only [qec, hN, seval])); refine zaa (hK _ _ ?_); clear hK K; refine wp_ret ⟨by simp [zab, hD], ?_⟩; simp only [qea, hN, seval]
  exact ⟨⟨_, rfl⟩, hc⟩
 ·refine wp_cond_false (by simp [qed, hN, hl]) ?_
  refine wp_skip ?_
  refine hK _ _ ?_
  clear hK K
  refine qsr fun K hK => ?_; (repeat ((with_reducible refine zaJ ?_ ?_ ?_); (· simp [qef, hN] <;> omega); (· kernel_rfl); try simp only [qec, hN, seval])); refine zaa (hK _ _ ?_); clear hK K; refine wp_ret ⟨by simp [zab, hD], ?_⟩; simp only [qea, hN, seval]
  exact ⟨⟨_, rfl⟩, hc⟩
theorem fits3_c (t : za5) (hlim : t.length ≤ 1099511627776) {w : World} {G : Nat → Prop} {vt : Value} (ht : TgS w G t vt) : zaF Tryz.prog 15 #[vt] w (IsBool w) := by
 obtain ⟨ot, ct, rfl, hct, htl⟩ := ht
 refine zaq Tryz.func15 rfl rfl Tryz.ntmps15 (by simp) ?_
 intro a hN hD ha
 have h0 : get a 0 = .slice ot t.length ct := ha 0 _ rfl
 refine qsr fun K hK => ?_; (repeat ((with_reducible refine zaJ ?_ ?_ ?_); (· simp [qef, hN] <;> omega); (· kernel_rfl); try simp only [qec, hN, seval])); refine zaa (hK _ _ ?_); clear hK K
 refine qsk fun K hK => ?_; refine qsr fun K0 hK0 => ?_
 (repeat ((with_reducible refine zaJ ?_ ?_ ?_); (· simp [qef, hN, h0] <;> omega); (· kernel_rfl); try simp only [qec, hN, seval, h0]))
 refine zaa ?_
 refine hK0 _ _ ?_; try clear hK0 K0
 by_cases hl : (2147483647 : Int) < t.length
 ·refine wp_cond_true (by simp [qed, hN, hl]) ?_
  refine qsr fun K hK => ?_; (repeat ((with_reducible refine zaJ ?_ ?_ ?_); (· simp [qef, hN] <;> omega); (· kernel_rfl); try simp only [qec, hN, seval])); refine zaa (hK _ _ ?_); clear hK K; refine wp_ret ⟨by simp [zab, hD], ?_⟩; simp only [qea, hN, seval]
  exact ⟨⟨_, rfl⟩, Chg.refl _ _⟩
 refine wp_cond_false (by simp [qed, hN, hl]) ?_
 refine wp_skip ?_
 refine hK _ _ ?_
 clear hK K
 refine qsk fun K0 hK0 => ?_; refine qsr fun K hK => ?_; (repeat ((with_reducible refine zaJ ?_ ?_ ?_); (· simp [qef, hN, h0] <;> omega); (· kernel_rfl); try simp only [qec, hN, seval, h0])); refine zaa (hK _ _ ?_); clear hK K
 refine wp_range (n := t.length) (fun i a' w' => a'.tmps.size = 18 ∧ a'.defers = [] ∧ get a' 8 = .slice ot t.length ct ∧ Chg (fun _ => False) w w') 18 (by omega)
  (by simp only [qea, hN, seval]; try rfl) (by simp only [qea, hN, seval]) ⟨by simp only [qea, hN, seval], by simp [zab, hD], by simp only [qea, hN, seval, h0], Chg.refl _ _⟩ ?_ ?_ (by decide) ?_ ?_
 ·rintro i a w ⟨h, _⟩; exact h
 ·rintro i a w v u ht ⟨k1, k2, k3, k4⟩
  rcases ht with rfl | rfl | rfl <;> exact ⟨by rw [zag]; exact k1, by rw [zab]; exact k2, by rw [zae (by decide)]; exact k3, k4⟩
 ·clear hN hD
  rintro i a1 w2 hi ⟨hN, hD, g8, hc2⟩ g9 g10
  have hx : t[i]? = some t[i] := by simp [hi]
  generalize t[i] = x at hx
  rcases htl with rfl | ⟨b, o, cs, T, rfl, hGb, hb, htl⟩
  ·simp at hi
  obtain ⟨hcx, hlx⟩ := htl.get hx
  obtain ⟨ob, cb, hx1, hx2, hx3, hx4⟩ := hcx
  have hb2 : Rbk w2 b cs T := hb.chg hc2 (fun h => h)
  refine qsr fun K hK => ?_
  refine zaT (b := b) (o := o) (k := .i64) (i := i) (n := 2) (len := t.length) (cap := ct) (by kernel_rfl) (by simp [qed, hN, g8]) (by simp [qed, hN, g10]) hi ?_
  rw [List.length_drop] at hlx
  refine wl_loadAgg_r (b := b) (o := o + i * 2) (n := 2) (by kernel_rfl) (by kernel_rfl) (by simp [qed, hN]) hb2 (by omega) ?_
  rw [List.drop_drop] at hx1
  rw [hx1]
  refine wl_allocA (z := zaZ [.int .u32 0, .slice none 0 0]) (fun w => Tryz.zeroValue59 w) fun w3 hc3 hb3 hs3 => ?_
  refine zbh (b := w2.heap.size) (n := 2) (l' := [.int .u32 x.1, .slice ob x.2.length cb]) (by kernel_rfl) (by simp [qed, hN]) (by simp [qed, hN]; rfl) hb3 rfl (by intro y hy; simp only [List.mem_cons, List.not_mem_nil, or_false] at hy; rcases hy with rfl | rfl <;> rfl) rfl fun w4 hb4 hc4 => ?_
  have hc24 : Chg (fun _ => False) w2 w4 := hc3.trans hc4 fun n hn h => by omega
  refine zaa (hK _ _ ?_); clear hK K
  refine qsr fun K1 hK1 => ?_
  refine za7 (b := w2.heap.size) (o := 0) (n := 2) (by kernel_rfl) (by kernel_rfl) (by simp [qed, hN]) hb4 (Nat.le_refl _) ?_
  refine zaz (fun args w => Tryz.call30 args w) (by simp only [qea, List.map_toArray, List.map_cons, List.map_nil, hN, seval]; exact fits4_c x) ?_
  rintro v w5 ⟨⟨bb, rfl⟩, hc5⟩
  have hcw5 : Chg (fun _ => False) w w5 := (hc2.trans hc24 fun _ _ h => h).trans hc5 fun _ _ h => h
  (repeat ((with_reducible refine zaJ ?_ ?_ ?_); (· simp [qef, hN] <;> omega); (· kernel_rfl); try simp only [qec, hN, seval]))
  refine zaa ?_
  refine hK1 _ _ ?_; try clear hK1 K1
  cases bb
  ·refine wp_cond_true (by simp [qed, hN]) ?_
   refine qsr fun K hK => ?_; (repeat ((with_reducible refine zaJ ?_ ?_ ?_); (· simp [qef, hN] <;> omega); (· kernel_rfl); try simp only [qec, hN, seval])); refine zaa (hK _ _ ?_); clear hK K; refine wp_ret ⟨by simp [zab, hD], ?_⟩; simp only [qea, hN, seval]
   exact ⟨⟨_, rfl⟩, hcw5⟩
  ·refine wp_cond_false (by simp [qed, hN]) ?_
   refine wp_skip ?_
   exact ⟨⟨by simp only [qea, hN, seval], by simp [zab, hD], by simp only [qea, hN, seval, g8], hcw5⟩, by simp only [qea, hN, seval, g9], by simp only [qea, hN, seval, g10]⟩
 ·rintro a w2 ⟨hN, hD, g8, hc2⟩
  refine hK0 _ _ ?_
  clear hK0 K0
  refine qsr fun K hK => ?_; (repeat ((with_reducible refine zaJ ?_ ?_ ?_); (· simp [qef, hN] <;> omega); (· kernel_rfl); try simp only [qec, hN, seval])); refine zaa (hK _ _ ?_); clear hK K; refine wp_ret ⟨by simp [zab, hD], ?_⟩; simp only [qea, hN, seval]
  exact ⟨⟨_, rfl⟩, hc2⟩
theorem fits2_c (v : Tr) (hlim : trLen v ≤ 1099511627776) {w : World} {G : Nat → Prop} {ts : List Value} (hv : TrC w G v ts) : zaF Tryz.prog 5 #[zaZ ts] w (IsBool w) := by
 cases v with
 | mk n b nil l t =>
 unfold TrC at hv
 obtain ⟨ob, cb, ol, cl, vt, rfl, hv1, hv2, hv3, hv4, hv5, hv6⟩ := hv
 unfold trLen at hlim
 refine zaq Tryz.func5 rfl rfl Tryz.ntmps5 (by simp) ?_
 intro a hN hD ha
 have h0 : get a 0 = zaZ [.int .i64 n, .slice ob b.length cb, .bool nil, .slice ol l.length cl, vt] := ha 0 _ rfl
 refine qsr fun K hK => ?_
 refine wl_boxA (l := [.int .i64 n, .slice ob b.length cb, .bool nil, .slice ol l.length cl, vt]) (by simp [qed, hN, h0]) fun w1 hc hb hs => ?_
 have l1 := hb.ld (i := 1) rfl
 have l3 := hb.ld (i := 3) rfl
 have l4 := hb.ld (i := 4) rfl
 have f1 : fOff Tryz.prog 26 1 = 1 := by kernel_rfl
 have f3 : fOff Tryz.prog 26 3 = 3 := by kernel_rfl
 have f4 : fOff Tryz.prog 26 4 = 4 := by kernel_rfl
 (repeat ((with_reducible refine zaJ ?_ ?_ ?_); (· simp [qef, hN] <;> omega); (· kernel_rfl); try simp only [qec, hN, seval])); refine zaa (hK _ _ ?_); clear hK K
 refine qsk fun K hK => ?_; refine qsr fun K0 hK0 => ?_
 (repeat ((with_reducible refine zaJ ?_ ?_ ?_); (· simp [qef, hN, l1, f1] <;> omega); (· kernel_rfl); try simp only [qec, hN, seval, l1, f1]))
 refine zaa ?_
 refine hK0 _ _ ?_; try clear hK0 K0
 by_cases hl : (2147483647 : Int) < b.length
 ·refine wp_cond_true (by simp [qed, hN, hl]) ?_
  refine qsr fun K hK => ?_; (repeat ((with_reducible refine zaJ ?_ ?_ ?_); (· simp [qef, hN] <;> omega); (· kernel_rfl); try simp only [qec, hN, seval])); refine zaa (hK _ _ ?_); clear hK K; refine wp_ret ⟨by simp [zab, hD], ?_⟩; simp only [qea, hN, seval]
  exact ⟨⟨_, rfl⟩, hc⟩
 refine wp_cond_false (by simp [qed, hN, hl]) ?_
 refine wp_skip ?_
 refine hK _ _ ?_
 clear hK K hl
 refine qsk fun K hK => ?_; refine qsr fun K0 hK0 => ?_
 (repeat ((with_reducible refine zaJ ?_ ?_ ?_); (· simp [qef, hN, l3, f3] <;> omega); (· kernel_rfl); try simp only [qec, hN, seval, l3, f3]))
 refine zaa ?_
 refine hK0 _ _ ?_; try clear hK0 K0
 by_cases hl : (2147483647 : Int) < l.length
 ·refine wp_cond_true (by simp [qed, hN, hl]) ?_
  refine qsr fun K hK => ?_; (repeat ((with_reducible refine zaJ ?_ ?_ ?_); (· simp [qef, hN] <;> omega); (· kernel_rfl); try simp only [qec, hN, seval])); refine zaa (hK _ _ ?_); clear hK K; refine wp_ret ⟨by simp [zab, hD], ?_⟩; simp only [qea, hN, seval]
  exact ⟨⟨_, rfl⟩, hc⟩
 refine wp_cond_false (by simp [qed, hN, hl]) ?_
 refine wp_skip ?_
 refine hK _ _ ?_
 clear hK K hl
 refine qsk fun K hK => ?_; refine qsr fun K0 hK0 => ?_
 (repeat ((with_reducible refine zaJ ?_ ?_ ?_); (· simp [qef, hN, l4, f4] <;> omega); (· kernel_rfl); try simp only [qec, hN, seval, l4, f4]))
 refine zaz (fun args w => Tryz.call15 args w) (by simp only [qea, List.map_toArray, List.map_cons, List.map_nil, hN, seval]; exact fits3_c t hlim (hv6.stay (zbl.none hc))) ?_
 rintro v w5 ⟨⟨bb, rfl⟩, hc5⟩
 have hcw5 : Chg (fun _ => False) w w5 := hc.trans hc5 fun _ _ h => h
 (repeat ((with_reducible refine zaJ ?_ ?_ ?_); (· simp [qef, hN] <;> omega); (· kernel_rfl); try simp only [qec, hN, seval]))
 refine zaa ?_
 refine hK0 _ _ ?_; try clear hK0 K0
 cases bb
 ·refine wp_cond_true (by simp [qed, hN]) ?_
  refine qsr fun K hK => ?_; (repeat ((with_reducible refine zaJ ?_ ?_ ?_); (· simp [qef, hN] <;> omega); (· kernel_rfl); try simp only [qec, hN, seval])); refine zaa (hK _ _ ?_); clear hK K; refine wp_ret ⟨by simp [zab, hD], ?_⟩; simp only [qea, hN, seval]
  exact ⟨⟨_, rfl⟩, hcw5⟩
 ·refine wp_cond_false (by simp [qed, hN]) ?_
  refine wp_skip ?_
  refine hK _ _ ?_
  clear hK K
  refine qsr fun K hK => ?_; (repeat ((with_reducible refine zaJ ?_ ?_ ?_); (· simp [qef, hN] <;> omega); (· kernel_rfl); try simp only [qec, hN, seval])); refine zaa (hK _ _ ?_); clear hK K; refine wp_ret ⟨by simp [zab, hD], ?_⟩; simp only [qea, hN, seval]
  exact ⟨⟨_, rfl⟩, hcw5⟩
set_option maxHeartbeats 2000000
theorem tgBulk_len : ∀ t : za5, t.length ≤ zbk t
 | [] => Nat.zero_le _
 | x :: r => by have := tgBulk_len r; unfold zbk; simp only [List.length_cons]; omega
theorem trBulkL_len : ∀ l : List Tr, l.length ≤ zbt l
 | [] => Nat.zero_le _
 | x :: r => by have := trBulkL_len r; have := trBulk_pos x; unfold zbt; simp only [List.length_cons]; omega
mutual
theorem trok_bulk : ∀ {v : Tr}, za8 v ≤ LIM → TROK v
 | .mk n b e l t, h => by
  unfold za8 at h
  have := tgBulk_len t
  have := trBulkL_len l
  unfold TROK
  exact ⟨trivial, by omega, by omega, by omega, trok_bulkL (by omega)⟩
theorem trok_bulkL : ∀ {l : List Tr}, zbt l ≤ LIM → TRLOK l
 | [], _ => by unfold TRLOK; trivial
 | x :: r, h => by
  unfold zbt at h
  unfold TRLOK
  exact ⟨trok_bulk (by omega), trok_bulkL (by omega)⟩
end
theorem trLen_bulk (v : Tr) : trLen v ≤ za8 v := by
 cases v with
 | mk n b e l t => have := tgBulk_len t; unfold trLen za8; dsimp only; omega
def schB (flx : Int → Bool) (k : Nat) (fs : List Fld) : Bool := okL fs && plainL fs && decide (fs.length ≤ 1073741824) && decide (kL fs + 6 ≤ 1024) && (List.range (k + 1)).all fun v => goodL (flx v) v fs
structure SchOK (flx : Int → Bool) (k : Nat) (fs : List Fld) : Prop where
 ok : okL fs = true
 plain : plainL fs = true
 len : fs.length ≤ 1073741824
 room : kL fs + 6 ≤ 1024
 good : ∀ ver : Int, 0 ≤ ver → ver ≤ k → goodL (flx ver) ver fs = true
theorem schB_out {flx : Int → Bool} {k : Nat} {fs : List Fld} (h : schB flx k fs = true) : SchOK flx k fs := by
 unfold schB at h
 simp only [Bool.and_eq_true, decide_eq_true_eq, List.all_eq_true, List.mem_range] at h
 obtain ⟨⟨⟨⟨h1, h2⟩, h3⟩, h4⟩, h5⟩ := h
 refine ⟨h1, h2, h3, h4, fun ver h0 hk => ?_⟩
 have := h5 ver.toNat (by omega)
 rwa [Int.toNat_of_nonneg h0] at this
section
variable {r0 r1 r2 r3 r4 r5 : Nat}
variable {us us1 us2 us3 us4 us5 us6 us7 us8 : Array TypeId} {r6 r7 r8 : Nat} {z1 z2 z3 : TypeId} {p1 p2 p3 : String} {j1 j2 j3 : Array Edge}
end
end Go.Proofs.YtnjjfpgpookjlaaGreatDoor
