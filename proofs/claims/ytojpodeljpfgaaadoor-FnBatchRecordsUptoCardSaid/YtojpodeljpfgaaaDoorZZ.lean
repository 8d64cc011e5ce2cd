import Derived.Test.YtojpodeljpfgaaaDoorZ0
import Derived.Test.YtojpodeljpfgaaaDoorZN
import Derived.Test.YtojpodeljpfgaaaDoorZP
import Derived.Lib.SmallJoins
import Derived.Deep.Strs
/-
What the proofs of the laws rest on, part ZZ.
-/
namespace Go.Proofs.YtojpodeljpfgaaaDoor
set_option linter.all false
open Go.RowKit Go.ChangeShapes
set_option maxRecDepth 10000
set_option maxHeartbeats 2000000
theorem choose_list {α : Type} : ∀ (n : Nat) (P : Nat → α → Prop), (∀ i, i < n → ∃ y, P i y) → ∃ l : List α, l.length = n ∧ ∀ i y, l[i]? = some y → P i y
  | 0, P, _ => ⟨[], rfl, fun i y h => by simp at h⟩
  | n + 1, P, h => by
    obtain ⟨l, h1, h2⟩ := choose_list n P fun i hi => h i (by omega)
    obtain ⟨y, hy⟩ := h n (by omega)
    refine ⟨l ++ [y], by simp [h1], fun i z hz => ?_⟩
    by_cases hi : i < n
    · rw [List.getElem?_append_left (by omega)] at hz; exact h2 i z hz
    · rw [List.getElem?_append_right (by omega), h1] at hz
      have : i = n := by
        have := (List.getElem?_eq_some_iff.1 hz).1
        simp at this; omega
      subst this
      simp at hz; subst hz; exact hy
section
variable {H : Type} {enc : TypeId × Value → H} {w : World} {base : Nat} {spare : Nat → Bool} {held : Bool}
theorem mem_bulk : ∀ {l : List (DataW H)} {d : DataW H}, d ∈ l → Rows.uptoBulk d ≤ Rows.uptoBulkAll l
  | [], d, h => by cases h
  | y :: r, d, h => by
    unfold Rows.uptoBulkAll
    rcases List.mem_cons.1 h with rfl | h
    · omega
    · have := mem_bulk h; omega
theorem len_bulk : ∀ {l : List (DataW H)}, (∀ d ∈ l, 1 ≤ Rows.uptoBulk d) → l.length ≤ Rows.uptoBulkAll l
  | [], _ => by simp
  | y :: r, h => by
    unfold Rows.uptoBulkAll
    have h1 := h y List.mem_cons_self
    have h2 := len_bulk (l := r) fun d hd => h d (List.mem_cons_of_mem _ hd)
    rw [List.length_cons]; omega
theorem list_of {α : Type} {sz : Nat} {one : Ov α} {tl te : TypeId} (ht : (Tryd.prog).underlying tl = some (.slice te)) (hcl : (Tryd.prog).cellsOf te = sz) (h0 : 0 < sz) (bk : α → Nat → Prop) (hbk : ∀ y n m, bk y n → n ≤ m → bk y m)
    (hone : ∀ {fuel : Nat} {cs : List Value} {x : DataW H × List MemPlace}, DataW.trod enc Tryd.prog w base spare held fuel te cs = some x → ∃ y, one w (fun _ => True) y cs ∧ bk y (Rows.uptoBulk x.1) ∧ 1 ≤ Rows.uptoBulk x.1)
    {fuel : Nat} {cs : List Value} {x : DataW H × List MemPlace} (h : DataW.trod enc Tryd.prog w base spare held fuel tl cs = some x) :
    ∃ (l : List α) (v : Value), cs = [v] ∧ LsS sz one w (fun _ => True) l v ∧ (∀ y ∈ l, bk y (Rows.uptoBulk x.1)) ∧ l.length ≤ Rows.uptoBulk x.1 := by
  rcases Go.Deep.open_slice ht h with ⟨rfl, rfl⟩ | ⟨a, len, cap, m, n, D, Pl, rfl, _, hlc, _, hm, rfl, hel⟩
  · exact ⟨[], _, rfl, ⟨none, 0, rfl, Nat.le_refl _, .inl rfl⟩, fun y hy => (by cases hy), Nat.zero_le _⟩
  · rw [hcl] at hel
    have hlm : len ≤ m := by rw [hm]; split <;> omega
    obtain ⟨t, ht1, ht2⟩ := choose_list len (fun i (y : α) => ∃ cs', w.cells? base (a.add (i * sz)) sz = some cs' ∧ one w (fun _ => True) y cs' ∧ bk y (Rows.uptoBulk (D i)) ∧ 1 ≤ Rows.uptoBulk (D i)) fun i hi => by
      obtain ⟨cs', e1, e2⟩ := hel i (by omega)
      obtain ⟨y, k1, k2, k3⟩ := hone e2
      exact ⟨y, cs', e1, k1, k2, k3⟩
    have hD : ∀ i, i < len → 1 ≤ Rows.uptoBulk (D i) := fun i hi => by
      obtain ⟨cs', e1, e2⟩ := hel i (by omega)
      obtain ⟨y, _, _, k3⟩ := hone e2
      exact k3
    have hsum : len ≤ Rows.uptoBulkAll ((List.range len).map D) := by
      have := len_bulk (l := (List.range len).map D) fun d hd => by
        obtain ⟨i, hi, rfl⟩ := List.mem_map.1 hd
        exact hD i (List.mem_range.1 hi)
      simpa using this
    refine ⟨t, _, rfl, ⟨some a, cap, by rw [ht1], by omega, ?_⟩, ?_, ?_⟩
    · by_cases hz : len = 0
      · left; exact List.eq_nil_of_length_eq_zero (by omega)
      · obtain ⟨C, hC⟩ : ∃ C : Nat → List Value, ∀ i, i < len → w.cells? base (a.add (i * sz)) sz = some (C i) := ⟨fun i => (w.cells? base (a.add (i * sz)) sz).getD [], fun i hi => by
          obtain ⟨cs', e1, _⟩ := hel i (by omega)
          dsimp only; rw [e1]; rfl⟩
        obtain ⟨k1, l, T, k2, k3⟩ := row_at hC h0 (by omega)
        obtain ⟨ab, ao, asp⟩ := a
        simp only at k1
        subst k1
        refine .inr ⟨ab, ao, l, T, rfl, trivial, k2, LsL.of fun i y hy => ?_⟩
        have hi : i < len := by rw [← ht1]; exact (List.getElem?_eq_some_iff.1 hy).1
        obtain ⟨cs', e1, e2, _⟩ := ht2 i y hy
        rw [List.drop_drop, k3 i hi]
        rw [hC i hi] at e1
        cases e1
        exact e2
    · intro y hy
      obtain ⟨i, hi⟩ := List.getElem?_of_mem hy
      obtain ⟨cs', e1, e2, e3, _⟩ := ht2 i y hi
      have hil : i < len := by rw [← ht1]; exact (List.getElem?_eq_some_iff.1 hi).1
      refine hbk _ _ _ e3 ?_
      have := mem_bulk (l := (List.range len).map D) (d := D i) (List.mem_map.2 ⟨i, List.mem_range.2 hil, rfl⟩)
      simp only [Rows.uptoBulk]
      omega
    · rw [ht1]
      simp only [Rows.uptoBulk]
      omega
theorem oct_of {fuel : Nat} {cs : List Value} {x : DataW H × List MemPlace} (h : DataW.trod enc Tryd.prog w base spare held fuel 31 cs = some x) :
    ∃ y : Oct, OctC w (fun _ => True) y cs ∧ y.data.length + 1 ≤ Rows.uptoBulk x.1 := by
  obtain ⟨y0, y1, n, rfl, hl, h0, h1⟩ := trod_struct2 Tryd.underlying31 h
  have c2 : (Tryd.prog).cellsOf 31 = 2 := by kernel_rfl
  have c1 : (Tryd.prog).cellsOf 4 = 1 := by kernel_rfl
  have c1' : (Tryd.prog).cellsOf 24 = 1 := by kernel_rfl
  rw [c2] at hl
  simp only [c1, c1'] at h0 h1
  obtain ⟨z, e0, e1⟩ := DataW.trod_bool Tryd.underlying4 h0
  obtain ⟨oa, cap, bs, e2, k1, k2, k3⟩ := bytes_of h1
  match cs, hl with
  | [a, b], _ =>
    simp at e0 e2
    subst e0 e2 e1
    refine ⟨⟨z, bs⟩, ⟨oa, cap, rfl, k1, k2⟩, ?_⟩
    simp only [Rows.uptoBulk, Rows.uptoBulkAll]
    show bs.length + 1 ≤ _
    omega
theorem hd_of {fuel : Nat} {cs : List Value} {x : DataW H × List MemPlace} (h : DataW.trod enc Tryd.prog w base spare held fuel 55 cs = some x) :
    ∃ y : Hd, HdC w (fun _ => True) y cs ∧ (y.key.length ≤ Rows.uptoBulk x.1 ∧ y.val.data.length ≤ Rows.uptoBulk x.1) ∧ 1 ≤ Rows.uptoBulk x.1 := by
  obtain ⟨y0, y1, n, rfl, hl, h0, h1⟩ := trod_struct2 Tryd.underlying55 h
  have c2 : (Tryd.prog).cellsOf 55 = 3 := by kernel_rfl
  have c1 : (Tryd.prog).cellsOf 9 = 1 := by kernel_rfl
  have c1' : (Tryd.prog).cellsOf 31 = 2 := by kernel_rfl
  rw [c2] at hl
  simp only [c1, c1'] at h0 h1
  obtain ⟨z, e0, e1, _⟩ := DataW.trod_string Tryd.underlying9 h0
  obtain ⟨y, k1, k2⟩ := oct_of h1
  match cs, hl with
  | [a, b, c], _ =>
    simp at e0
    subst e0 e1
    refine ⟨⟨z.data.toList, y⟩, ⟨[b, c], ?_, k1⟩, ⟨?_, ?_⟩, ?_⟩
    · show [Value.string z, b, c] = [Value.string ⟨z.data.toList.toArray⟩, b, c]
      cases z; simp
    · simp only [Rows.uptoBulk, Rows.uptoBulkAll]
      show z.data.toList.length ≤ _
      omega
    · simp only [Rows.uptoBulk, Rows.uptoBulkAll]
      show y.data.length ≤ _
      omega
    · simp only [Rows.uptoBulk, Rows.uptoBulkAll]
      omega
def rcBk (r : Rc) (n : Nat) : Prop := r.key.data.length ≤ n ∧ r.val.data.length ≤ n ∧ r.hs.length ≤ n ∧ ∀ h ∈ r.hs, h.key.length ≤ n ∧ h.val.data.length ≤ n
theorem rc_of {fuel : Nat} {cs : List Value} {x : DataW H × List MemPlace} (h : DataW.trod enc Tryd.prog w base spare held fuel 34 cs = some x) :
    ∃ y : Rc, RcC w (fun _ => True) y cs ∧ rcBk y (Rows.uptoBulk x.1) ∧ 1 ≤ Rows.uptoBulk x.1 := by
  obtain ⟨xs, n, rfl, rfl, hl, hlen, hf⟩ := DataW.trod_struct Tryd.underlying34 h
  have cT : (Tryd.prog).cellsOf 34 = 9 := by kernel_rfl
  have c0 : (Tryd.prog).cellsOf 21 = 1 := by kernel_rfl
  have c1 : (Tryd.prog).cellsOf 22 = 1 := by kernel_rfl
  have c2 : (Tryd.prog).cellsOf 2 = 1 := by kernel_rfl
  have c4 : (Tryd.prog).cellsOf 31 = 2 := by kernel_rfl
  have c6 : (Tryd.prog).cellsOf 32 = 1 := by kernel_rfl
  rw [cT] at hl
  have hlen7 : xs.length = 7 := hlen
  match xs, hlen7, cs, hl with
  | [y0, y1, y2, y3, y4, y5, y6], _, [a0, a1, a2, a3, a4, a5, a6, a7, a8], _ =>
    have f0 := hf 0 _ rfl
    change DataW.trod enc Tryd.prog w base spare held n 21 (([a0, a1, a2, a3, a4, a5, a6, a7, a8].drop 0).take ((Tryd.prog).cellsOf 21)) = some y0 at f0
    rw [c0] at f0
    have f1 := hf 1 _ rfl
    change DataW.trod enc Tryd.prog w base spare held n 22 (([a0, a1, a2, a3, a4, a5, a6, a7, a8].drop 1).take ((Tryd.prog).cellsOf 22)) = some y1 at f1
    rw [c1] at f1
    have f2 := hf 2 _ rfl
    change DataW.trod enc Tryd.prog w base spare held n 2 (([a0, a1, a2, a3, a4, a5, a6, a7, a8].drop 2).take ((Tryd.prog).cellsOf 2)) = some y2 at f2
    rw [c2] at f2
    have f3 := hf 3 _ rfl
    change DataW.trod enc Tryd.prog w base spare held n 21 (([a0, a1, a2, a3, a4, a5, a6, a7, a8].drop 3).take ((Tryd.prog).cellsOf 21)) = some y3 at f3
    rw [c0] at f3
    have f4 := hf 4 _ rfl
    change DataW.trod enc Tryd.prog w base spare held n 31 (([a0, a1, a2, a3, a4, a5, a6, a7, a8].drop 4).take ((Tryd.prog).cellsOf 31)) = some y4 at f4
    rw [c4] at f4
    have f5 := hf 5 _ rfl
    change DataW.trod enc Tryd.prog w base spare held n 31 (([a0, a1, a2, a3, a4, a5, a6, a7, a8].drop 6).take ((Tryd.prog).cellsOf 31)) = some y5 at f5
    rw [c4] at f5
    have f6 := hf 6 _ rfl
    change DataW.trod enc Tryd.prog w base spare held n 32 (([a0, a1, a2, a3, a4, a5, a6, a7, a8].drop 8).take ((Tryd.prog).cellsOf 32)) = some y6 at f6
    rw [c6] at f6
    obtain ⟨z0, e0, u0, w0⟩ := DataW.trod_int Tryd.underlying21 f0
    obtain ⟨z1, e1, u1, w1⟩ := DataW.trod_int Tryd.underlying22 f1
    obtain ⟨z2, e2, u2, w2⟩ := DataW.trod_int Tryd.underlying2 f2
    obtain ⟨z3, e3, u3, w3⟩ := DataW.trod_int Tryd.underlying21 f3
    obtain ⟨k, k1, k2⟩ := oct_of f4
    obtain ⟨v, v1, v2⟩ := oct_of f5
    obtain ⟨l, lv, e6, l1, l2, l3⟩ := list_of (one := HdC) Tryd.underlying32 (sz := 3) (by kernel_rfl) (by decide) (fun y n => y.key.length ≤ n ∧ y.val.data.length ≤ n) (fun y n m h hm => ⟨by omega, by omega⟩) (fun h => hd_of h) f6
    obtain ⟨ka, kc, ek, k3, k4⟩ := k1
    obtain ⟨va, vc, ev, v3, v4⟩ := v1
    simp at e0 e1 e2 e3 e6 ek ev
    obtain ⟨ek1, ek2⟩ := ek
    obtain ⟨ev1, ev2⟩ := ev
    subst e0 e1 e2 e3 e6 ek1 ek2 ev1 ev2 u0 u1 u2 u3
    simp only [Lit.wf, IntKind.min, IntKind.max, IntKind.signed, IntKind.bits, Bool.and_eq_true, decide_eq_true_eq] at w0; simp at w0
    simp only [Lit.wf, IntKind.min, IntKind.max, IntKind.signed, IntKind.bits, Bool.and_eq_true, decide_eq_true_eq] at w1; simp at w1
    simp only [Lit.wf, IntKind.min, IntKind.max, IntKind.signed, IntKind.bits, Bool.and_eq_true, decide_eq_true_eq] at w2; simp at w2
    simp only [Lit.wf, IntKind.min, IntKind.max, IntKind.signed, IntKind.bits, Bool.and_eq_true, decide_eq_true_eq] at w3; simp at w3
    refine ⟨⟨z0, z1, z2, z3, k, v, l⟩, ⟨ka, kc, va, vc, _, rfl, ⟨k3, k4⟩, ⟨v3, v4⟩, l1, ⟨by show _ ≤ z0 ∧ z0 < _; omega, by show _ ≤ z1 ∧ z1 < _; omega, by show _ ≤ z2 ∧ z2 < _; omega, by show _ ≤ z3 ∧ z3 < _; omega⟩⟩, ?_, ?_⟩
    · simp only [List.map_cons, List.map_nil, Rows.uptoBulk, Rows.uptoBulkAll]
      refine ⟨by show k.data.length ≤ _; omega, by show v.data.length ≤ _; omega, by show l.length ≤ _; omega, fun h hh => ?_⟩
      have := l2 h hh
      exact ⟨by omega, by omega⟩
    · simp only [List.map_cons, List.map_nil, Rows.uptoBulk, Rows.uptoBulkAll]; omega
theorem bt_of {fuel : Nat} {cs : List Value} {x : DataW H × List MemPlace} (h : DataW.trod enc Tryd.prog w base spare held fuel 26 cs = some x) :
    ∃ (B : Bt) (oB : Option Addr) (nB cB : Nat), cs = btV B (.slice oB nB cB) ∧ BtR B := by
  obtain ⟨xs, n, rfl, rfl, hl, hlen, hf⟩ := DataW.trod_struct Tryd.underlying26 h
  have cT : (Tryd.prog).cellsOf 26 = 14 := by kernel_rfl
  have ci32 : (Tryd.prog).cellsOf 21 = 1 := by kernel_rfl
  have ci8 : (Tryd.prog).cellsOf 22 = 1 := by kernel_rfl
  have ci16 : (Tryd.prog).cellsOf 23 = 1 := by kernel_rfl
  have ci64 : (Tryd.prog).cellsOf 2 = 1 := by kernel_rfl
  have cB : (Tryd.prog).cellsOf 24 = 1 := by kernel_rfl
  rw [cT] at hl
  have hlenx : xs.length = 14 := hlen
  match xs, hlenx, cs, hl with
  | [y0, y1, y2, y3, y4, y5, y6, y7, y8, y9, y10, y11, y12, y13], _, [a0, a1, a2, a3, a4, a5, a6, a7, a8, a9, a10, a11, a12, a13], _ =>
    have f0 := hf 0 _ rfl
    change DataW.trod enc Tryd.prog w base spare held n 2 (([a0, a1, a2, a3, a4, a5, a6, a7, a8, a9, a10, a11, a12, a13].drop 0).take ((Tryd.prog).cellsOf 2)) = some y0 at f0
    rw [ci64] at f0
    obtain ⟨z0, e0, u0, w0⟩ := DataW.trod_int Tryd.underlying2 f0
    simp at e0
    simp only [Lit.wf, IntKind.min, IntKind.max, IntKind.signed, IntKind.bits, Bool.and_eq_true, decide_eq_true_eq] at w0; simp at w0
    have f1 := hf 1 _ rfl
    change DataW.trod enc Tryd.prog w base spare held n 21 (([a0, a1, a2, a3, a4, a5, a6, a7, a8, a9, a10, a11, a12, a13].drop 1).take ((Tryd.prog).cellsOf 21)) = some y1 at f1
    rw [ci32] at f1
    obtain ⟨z1, e1, u1, w1⟩ := DataW.trod_int Tryd.underlying21 f1
    simp at e1
    simp only [Lit.wf, IntKind.min, IntKind.max, IntKind.signed, IntKind.bits, Bool.and_eq_true, decide_eq_true_eq] at w1; simp at w1
    have f2 := hf 2 _ rfl
    change DataW.trod enc Tryd.prog w base spare held n 21 (([a0, a1, a2, a3, a4, a5, a6, a7, a8, a9, a10, a11, a12, a13].drop 2).take ((Tryd.prog).cellsOf 21)) = some y2 at f2
    rw [ci32] at f2
    obtain ⟨z2, e2, u2, w2⟩ := DataW.trod_int Tryd.underlying21 f2
    simp at e2
    simp only [Lit.wf, IntKind.min, IntKind.max, IntKind.signed, IntKind.bits, Bool.and_eq_true, decide_eq_true_eq] at w2; simp at w2
    have f3 := hf 3 _ rfl
    change DataW.trod enc Tryd.prog w base spare held n 22 (([a0, a1, a2, a3, a4, a5, a6, a7, a8, a9, a10, a11, a12, a13].drop 3).take ((Tryd.prog).cellsOf 22)) = some y3 at f3
    rw [ci8] at f3
    obtain ⟨z3, e3, u3, w3⟩ := DataW.trod_int Tryd.underlying22 f3
    simp at e3
    simp only [Lit.wf, IntKind.min, IntKind.max, IntKind.signed, IntKind.bits, Bool.and_eq_true, decide_eq_true_eq] at w3; simp at w3
    have f4 := hf 4 _ rfl
    change DataW.trod enc Tryd.prog w base spare held n 21 (([a0, a1, a2, a3, a4, a5, a6, a7, a8, a9, a10, a11, a12, a13].drop 4).take ((Tryd.prog).cellsOf 21)) = some y4 at f4
    rw [ci32] at f4
    obtain ⟨z4, e4, u4, w4⟩ := DataW.trod_int Tryd.underlying21 f4
    simp at e4
    simp only [Lit.wf, IntKind.min, IntKind.max, IntKind.signed, IntKind.bits, Bool.and_eq_true, decide_eq_true_eq] at w4; simp at w4
    have f5 := hf 5 _ rfl
    change DataW.trod enc Tryd.prog w base spare held n 23 (([a0, a1, a2, a3, a4, a5, a6, a7, a8, a9, a10, a11, a12, a13].drop 5).take ((Tryd.prog).cellsOf 23)) = some y5 at f5
    rw [ci16] at f5
    obtain ⟨z5, e5, u5, w5⟩ := DataW.trod_int Tryd.underlying23 f5
    simp at e5
    simp only [Lit.wf, IntKind.min, IntKind.max, IntKind.signed, IntKind.bits, Bool.and_eq_true, decide_eq_true_eq] at w5; simp at w5
    have f6 := hf 6 _ rfl
    change DataW.trod enc Tryd.prog w base spare held n 21 (([a0, a1, a2, a3, a4, a5, a6, a7, a8, a9, a10, a11, a12, a13].drop 6).take ((Tryd.prog).cellsOf 21)) = some y6 at f6
    rw [ci32] at f6
    obtain ⟨z6, e6, u6, w6⟩ := DataW.trod_int Tryd.underlying21 f6
    simp at e6
    simp only [Lit.wf, IntKind.min, IntKind.max, IntKind.signed, IntKind.bits, Bool.and_eq_true, decide_eq_true_eq] at w6; simp at w6
    have f7 := hf 7 _ rfl
    change DataW.trod enc Tryd.prog w base spare held n 2 (([a0, a1, a2, a3, a4, a5, a6, a7, a8, a9, a10, a11, a12, a13].drop 7).take ((Tryd.prog).cellsOf 2)) = some y7 at f7
    rw [ci64] at f7
    obtain ⟨z7, e7, u7, w7⟩ := DataW.trod_int Tryd.underlying2 f7
    simp at e7
    simp only [Lit.wf, IntKind.min, IntKind.max, IntKind.signed, IntKind.bits, Bool.and_eq_true, decide_eq_true_eq] at w7; simp at w7
    have f8 := hf 8 _ rfl
    change DataW.trod enc Tryd.prog w base spare held n 2 (([a0, a1, a2, a3, a4, a5, a6, a7, a8, a9, a10, a11, a12, a13].drop 8).take ((Tryd.prog).cellsOf 2)) = some y8 at f8
    rw [ci64] at f8
    obtain ⟨z8, e8, u8, w8⟩ := DataW.trod_int Tryd.underlying2 f8
    simp at e8
    simp only [Lit.wf, IntKind.min, IntKind.max, IntKind.signed, IntKind.bits, Bool.and_eq_true, decide_eq_true_eq] at w8; simp at w8
    have f9 := hf 9 _ rfl
    change DataW.trod enc Tryd.prog w base spare held n 2 (([a0, a1, a2, a3, a4, a5, a6, a7, a8, a9, a10, a11, a12, a13].drop 9).take ((Tryd.prog).cellsOf 2)) = some y9 at f9
    rw [ci64] at f9
    obtain ⟨z9, e9, u9, w9⟩ := DataW.trod_int Tryd.underlying2 f9
    simp at e9
    simp only [Lit.wf, IntKind.min, IntKind.max, IntKind.signed, IntKind.bits, Bool.and_eq_true, decide_eq_true_eq] at w9; simp at w9
    have f10 := hf 10 _ rfl
    change DataW.trod enc Tryd.prog w base spare held n 23 (([a0, a1, a2, a3, a4, a5, a6, a7, a8, a9, a10, a11, a12, a13].drop 10).take ((Tryd.prog).cellsOf 23)) = some y10 at f10
    rw [ci16] at f10
    obtain ⟨z10, e10, u10, w10⟩ := DataW.trod_int Tryd.underlying23 f10
    simp at e10
    simp only [Lit.wf, IntKind.min, IntKind.max, IntKind.signed, IntKind.bits, Bool.and_eq_true, decide_eq_true_eq] at w10; simp at w10
    have f11 := hf 11 _ rfl
    change DataW.trod enc Tryd.prog w base spare held n 21 (([a0, a1, a2, a3, a4, a5, a6, a7, a8, a9, a10, a11, a12, a13].drop 11).take ((Tryd.prog).cellsOf 21)) = some y11 at f11
    rw [ci32] at f11
    obtain ⟨z11, e11, u11, w11⟩ := DataW.trod_int Tryd.underlying21 f11
    simp at e11
    simp only [Lit.wf, IntKind.min, IntKind.max, IntKind.signed, IntKind.bits, Bool.and_eq_true, decide_eq_true_eq] at w11; simp at w11
    have f12 := hf 12 _ rfl
    change DataW.trod enc Tryd.prog w base spare held n 21 (([a0, a1, a2, a3, a4, a5, a6, a7, a8, a9, a10, a11, a12, a13].drop 12).take ((Tryd.prog).cellsOf 21)) = some y12 at f12
    rw [ci32] at f12
    obtain ⟨z12, e12, u12, w12⟩ := DataW.trod_int Tryd.underlying21 f12
    simp at e12
    simp only [Lit.wf, IntKind.min, IntKind.max, IntKind.signed, IntKind.bits, Bool.and_eq_true, decide_eq_true_eq] at w12; simp at w12
    have f13 := hf 13 _ rfl
    change DataW.trod enc Tryd.prog w base spare held n 24 (([a0, a1, a2, a3, a4, a5, a6, a7, a8, a9, a10, a11, a12, a13].drop 13).take ((Tryd.prog).cellsOf 24)) = some y13 at f13
    rw [cB] at f13
    obtain ⟨ob, cb, bs, e13, _, _, _⟩ := bytes_of f13
    simp at e13
    subst e0 e1 e2 e3 e4 e5 e6 e7 e8 e9 e10 e11 e12 e13
    exact ⟨⟨z0, z1, z2, z3, z4, z5, z6, z7, z8, z9, z10, z11, z12, bs⟩, ob, bs.length, cb, rfl, ⟨by show _ ≤ z0 ∧ z0 < _; omega, by show _ ≤ z1 ∧ z1 < _; omega, by show _ ≤ z2 ∧ z2 < _; omega, by show _ ≤ z3 ∧ z3 < _; omega, by show _ ≤ z4 ∧ z4 < _; omega, by show _ ≤ z5 ∧ z5 < _; omega, by show _ ≤ z6 ∧ z6 < _; omega, by show _ ≤ z7 ∧ z7 < _; omega, by show _ ≤ z8 ∧ z8 < _; omega, by show _ ≤ z9 ∧ z9 < _; omega, by show _ ≤ z10 ∧ z10 < _; omega, by show _ ≤ z11 ∧ z11 < _; omega, by show _ ≤ z12 ∧ z12 < _; omega⟩⟩
end
end Go.Proofs.YtojpodeljpfgaaaDoor
namespace Go.Proofs.YtojpodeljpfgaaaDoor
set_option linter.all false
open Go.ChangeShapes Go.WideShapes Go.ChangeAt Go.RowKit
set_option maxRecDepth 10000
set_option maxHeartbeats 1000000
theorem batch_arg {H : Type} {enc : TypeId × Value → H} {W : World} {base : Nat} {v : Value} {d : DataW H} {p : List MemPlace} (hok : Value.okWide Tryd.prog W .any base 26 v) (h : DataW.Trod enc Tryd.prog W 0 (fun _ => true) true 26 v d p) :
    ∃ (B : Bt) (oB : Option Addr) (nB cB : Nat), v = zax (btV B (.slice oB nB cB)) ∧ BtR B := by
  obtain ⟨cs, rfl, _⟩ := okWide_struct Tryd.underlying26 hok
  obtain ⟨fuel, hf⟩ := h
  obtain ⟨B, oB, nB, cB, h1, h2⟩ := bt_of hf
  have e : cs.toList = btV B (.slice oB nB cB) := h1
  exact ⟨B, oB, nB, cB, by unfold zax; rw [← e], h2⟩
theorem batch_same {H : Type} {enc : TypeId × Value → H} {W W' : World} {v : Value} {d : DataW H} {p : List MemPlace} (h : DataW.Trod enc Tryd.prog W 0 (fun _ => true) true 26 v d p) (hc : Chg (fun _ => False) W W') (hlt : ∀ x ∈ p, x.block < W.heap.size) :
    DataW.Trod enc Tryd.prog W' 0 (fun b => decide (b < W.heap.size)) true 26 v d p := Below.trod laidOut (by kernel_rfl) (of_decide_eq_true (by kernel_rfl)) h (below_of hc) hlt
theorem records_arg {H : Type} {enc : TypeId × Value → H} {W : World} {base : Nat} {v : Value} {d : DataW H} {p : List MemPlace} (hok : Value.okWide Tryd.prog W .any base 27 v) (h : DataW.Trod enc Tryd.prog W 0 (fun _ => true) true 27 v d p) (hb : Rows.uptoBulk d ≤ 1048576) :
    ∃ l : List Rc, LsS 9 RcC W (fun _ => True) l v ∧ (∀ x ∈ l, RcL x) ∧ l.length ≤ 4611686018427387904 := by
  obtain ⟨oa, n, cap, rfl⟩ := okWide_slice Tryd.underlying27 hok
  obtain ⟨fuel, hf⟩ := h
  obtain ⟨l, v, h1, h2, h3, h4⟩ := list_of (one := RcC) Tryd.underlying27 (sz := 9) (by kernel_rfl) (by decide) rcBk (fun y n m h hm => ⟨Nat.le_trans h.1 hm, Nat.le_trans h.2.1 hm, Nat.le_trans h.2.2.1 hm, fun x hx => ⟨Nat.le_trans (h.2.2.2 x hx).1 hm, Nat.le_trans (h.2.2.2 x hx).2 hm⟩⟩) (fun h => rc_of h) hf
  have e : [Value.slice oa n cap] = [v] := h1
  simp only [List.cons.injEq, and_true] at e
  subst e
  refine ⟨l, h2, fun x hx => ?_, ?_⟩
  · obtain ⟨k1, k2, k3, k4⟩ := h3 x hx
    exact ⟨Nat.le_trans k1 hb, Nat.le_trans k2 hb, Nat.le_trans k3 hb, fun y hy => ⟨Nat.le_trans (k4 y hy).1 hb, Nat.le_trans (k4 y hy).2 hb⟩⟩
  · have : l.length ≤ Rows.uptoBulk d := h4
    omega
theorem records_same {H : Type} {enc : TypeId × Value → H} {W W' : World} {v : Value} {d : DataW H} {p : List MemPlace} (h : DataW.Trod enc Tryd.prog W 0 (fun _ => true) true 27 v d p) (hc : Chg (fun _ => False) W W') (hlt : ∀ x ∈ p, x.block < W.heap.size) :
    DataW.Trod enc Tryd.prog W' 0 (fun b => decide (b < W.heap.size)) true 27 v d p := Below.trod laidOut (by kernel_rfl) (of_decide_eq_true (by kernel_rfl)) h (below_of hc) hlt
theorem walk_FnBatchRecords {w : World} {G : Nat → Prop} {B : Bt} (q : BtR B) {oB : Option Addr} {nB cB : Nat} {l : List Rc} {v : Value} (hl : LsS 9 RcC w G l v) (hL : ∀ x ∈ l, RcL x) (hn : l.length ≤ 4611686018427387904) :
    zan Tryd.prog 3 #[zax (btV B (.slice oB nB cB)), v] w fun r w' => r = .bool true ∧ Chg (fun _ => False) w w' := law_c q hl hL hn
end Go.Proofs.YtojpodeljpfgaaaDoor
