import Derived.Test.YtojpodeljpfgaaaDoorZ8
import Derived.Laws.AppendOwn
/-
What the proofs of the laws rest on, part Z9.
-/
namespace Go.Proofs.YtojpodeljpfgaaaDoor
set_option linter.all false
open Go.RowKit
set_option maxRecDepth 10000
set_option maxHeartbeats 4000000
theorem zeroCells_len (z : Array Value) (n : Nat) : (Builtin.zeroCells z n).size = n * z.size := by simp [Builtin.zeroCells]
theorem zeroCells_seg (z : Array Value) (n k : Nat) (h : k < n) : (((Builtin.zeroCells z n).toList.drop (k * z.size)).take z.size) = z.toList := by
  have hle : (k + 1) * z.size ≤ n * z.size := Nat.mul_le_mul_right _ h
  rw [Nat.add_mul, Nat.one_mul] at hle
  apply List.ext_getElem?
  intro j
  by_cases hj : j < z.size
  · rw [seg_get hj]
    simp only [Builtin.zeroCells, Array.toList_map, Array.toList_range, List.getElem?_map, List.getElem?_range (show k * z.size + j < n * z.size by omega), Option.map_some]
    rw [show (k * z.size + j) % z.size = j by rw [Nat.mul_comm, Nat.mul_add_mod]; exact Nat.mod_eq_of_lt hj]
    simp [hj]
  · rw [List.getElem?_eq_none (by rw [List.length_take]; omega), List.getElem?_eq_none (by simpa using hj)]
theorem run_appMake {P : Program} {w : World} {t ti ty e : TypeId} {i : TypeInfo} {z : Value} {k k' : IntKind} (ht : P.underlying t = some (.slice e)) (hti : P.underlying ti = some (.int k')) (hi : P.info? e = some i) (hz : zeroB P e z) (oa : Option Addr) (c n : Nat) (h0 : 0 < n) (hc : c < n)
    (hn : n ≤ 1073741824) (hb : i.bytes ≤ 65536) (hs : 0 < i.size) :
    (Builtin.append_ #[t, ti] ty #[.slice oa 0 c, .int k n]).run P w =
      .ok (.slice (some ⟨w.heap.size, 0, none⟩) n (grownCap w n c e))
        (w.drew.alloc (.cells (Builtin.zeroCells z.cells n ++ Builtin.zeroCells z.cells (grownCap w n c e - n)) e)) := by
  have h1 : IntKind.i64.wrap (n : Int) = n := i64_sm _ (by omega)
  have h2 : ¬ ((n : Int) < 0) := by omega
  have hb2 : n * i.bytes ≤ 70368744177664 := Nat.le_trans (Nat.mul_le_mul hn hb) (by decide)
  have h3 : ¬ ((n : Int) * (i.bytes : Int) > 281474976710656) := by
    have e : (n : Int) * (i.bytes : Int) = ((n * i.bytes : Nat) : Int) := by push_cast; rfl
    rw [e]; omega
  have h4 : ¬ (n ≤ c) := by omega
  have h5 : ¬ (9223372036854775807 < (n : Int)) := by omega
  have h6 : ¬ (281474976710656 < Builtin.nextslicecap n c * i.bytes) := by
    have := growslice_fits (need := n) (old := c) (bytes := i.bytes) hc (by omega); omega
  have h7 : ¬ (n = 0 ∨ i.size = 0) := by omega
  have hf : ∀ w : World, (Builtin.firstCells i.size 0 (.slice oa 0 c)).run P w = .ok #[] w := by
    intro w
    cases oa with
    | none => simp [Builtin.firstCells]
    | some a =>
      have := run_loadCells_list (P := P) (w := w) a [] (fun j v hj => by simp at hj)
      simpa [Builtin.firstCells] using this
  simp [Builtin.append_, run_underlying ht, run_underlying hti, sizeOf, typeInfo, hi, asInt, asIntOf, h1, h2, h3, h4, h5, h6, h7, Question.forced, hf, zeroB_run hz, newRow, grownCap]
  intro h
  rcases Nat.mul_eq_zero.1 h with h | h <;> omega
def intTB (P : Program) (t : Nat) : Bool := match P.underlying t with | some (.int _) => true | _ => false
def roomB (P : Program) (t n : Nat) : Bool := match P.underlying t with | some (.slice e) => (match P.info? e with | some i => i.size == n && decide (i.bytes ≤ 65536) && decide (0 < n) | none => false) | _ => false
theorem run_room {P : Program} {w : World} {t ti ty sz : TypeId} {z : Value} {k : IntKind} (ht : roomB P t sz = true) (hti : intTB P ti = true) (hz : ∀ e, P.underlying t = some (.slice e) → zeroB P e z) (hzs : z.cells.size = sz) (oa : Option Addr) (n : Nat) (h0 : 0 < n) (hn : n ≤ 1073741824) :
    ∃ cap cs T, (Builtin.append_ #[t, ti] ty #[.slice oa 0 0, .int k n]).run P w = .ok (.slice (some ⟨w.heap.size, 0, none⟩) n cap) (w.drew.alloc (.cells cs T)) ∧ n ≤ cap ∧ n * sz ≤ cs.size ∧ ∀ j, j < n → (cs.toList.drop (j * sz)).take sz = z.cells.toList := by
  unfold roomB at ht
  unfold intTB at hti
  split at ht
  · rename_i e he
    split at ht
    · rename_i i hi
      simp only [Bool.and_eq_true, beq_iff_eq, decide_eq_true_eq] at ht
      obtain ⟨⟨h1, h2⟩, h3⟩ := ht
      split at hti
      · rename_i k' hk'
        have hr := run_appMake (w := w) (ty := ty) (k := k) he hk' hi (hz e he) oa 0 n h0 h0 hn h2 (by omega)
        have hr' : (Builtin.append_ #[t, ti] ty #[.slice oa 0 0, .int k n]).run P w = _ := hr
        refine ⟨_, _, _, hr', grownCap_ge _ _ _ _, ?_, fun j hj => ?_⟩
        · rw [Array.size_append, zeroCells_len, hzs]; omega
        · have hle : (j + 1) * sz ≤ n * sz := Nat.mul_le_mul_right _ hj
          rw [Nat.add_mul, Nat.one_mul] at hle
          have hl : (Builtin.zeroCells z.cells n).toList.length = n * sz := by rw [Array.length_toList, zeroCells_len, hzs]
          rw [Array.toList_append, List.drop_append_of_le_length (by rw [hl]; omega), List.take_append_of_le_length (by rw [List.length_drop, hl]; omega)]
          have := zeroCells_seg z.cells n j hj
          rwa [hzs] at this
      · cases hti
    · cases ht
  · cases ht
theorem wl_room {ops : Array Oper} {Q : Exit → Act → World → Prop} {a : Act} {w : World} {rest : List Oper} {d : Option Nat} {ty : TypeId} {pos : String} {af : Array Edge} {t ti sz : TypeId} {z : Value} {k : IntKind} {x y : Operand} {oa : Option Addr} {n : Nat}
    (ht : roomB Tryd.prog t sz = true) (hti : intTB Tryd.prog ti = true) (hz : ∀ e, (Tryd.prog).underlying t = some (.slice e) → zeroB Tryd.prog e z) (hzs : z.cells.size = sz) (hx : a.eval x = .slice oa 0 0) (hy : a.eval y = .int k n) (h0 : 0 < n) (hn : n ≤ 1073741824)
    (h : ∀ w' cap cs T, Chg (fun _ => False) w w' → Blk w' w.heap.size cs T → n ≤ cap → n * sz ≤ cs.length → (∀ j, j < n → (cs.drop (j * sz)).take sz = z.cells.toList) → w'.heap.size = w.heap.size + 1 → WL Tryd.prog ops Q rest (a.put d (.slice (some ⟨w.heap.size, 0, none⟩) n cap)) w') :
    WL Tryd.prog ops Q (⟨d, .call { callee := .builtin .append, args := #[x, y], argTypes := #[t, ti] }, ty, pos, af, none⟩ :: rest) a w := by
  obtain ⟨cap, cs, T, hr, h0c, h1, h2⟩ := run_room (w := w) (ty := ty) (k := k) ht hti hz hzs oa n h0 hn
  refine zaK rfl (v := .slice (some ⟨w.heap.size, 0, none⟩) n cap) (w' := w.drew.alloc (.cells cs T)) (by simp [execOp, resolve, invoke, builtin, hx, hy, hr]) ?_
  have hc : Chg (fun _ => False) w (w.drew.alloc (.cells cs T)) := (Chg.drew _ _).trans (Chg.alloc (fun _ => False) _ _) fun _ _ h => h
  exact h _ cap cs.toList T hc (Blk.newA w.drew cs T) h0c (by simpa using h1) h2 (by show (w.drew.heap.push _).size = _; rw [Array.size_push]; rfl)
theorem wp_joinW {P : Program} {c : Code} {Q : Exit → Act → World → Prop} {Q1 : Act → World → Prop} {a : Act} {w : World} (F : Act → World → Prop) (h1 : ∀ a w, F a w → Q1 a w) (h2 : (∀ a w, F a w → Q1 a w) → c.wp P Q a w) : c.wp P Q a w := h2 h1
theorem rVBytes_obB {o : Option Bs} (h : obL o < 2147483648) (r : Bs) : rVBytes (obB o ++ r) = some (o, r) := by
  cases o with
  | none => exact rVBytes_none r
  | some l =>
    show rVBytes (zaN l.length ++ l ++ r) = _
    rw [List.append_assoc]
    exact rVBytes_some h r
theorem rVStr {l : Bs} (h : l.length < 2147483648) (r : Bs) : ((rVBytes (zaN l.length ++ (l ++ r))).bind fun y => y.1.map fun l => (l, y.2)) = some (l, r) := by
  rw [rVBytes_some h]; rfl
theorem flat_kh_ge : ∀ (l : List Kh), 2 * l.length ≤ (l.flatMap khB).length
  | [] => by simp
  | h :: r => by
    have ih := flat_kh_ge r
    have h1 := zaC h.key.length
    have h2 : 1 ≤ (obB h.val).length := by
      unfold obB
      cases h.val with
      | none => exact (zaC (-1)).1
      | some l => have := (zaC l.length).1; rw [List.length_append]; omega
    rw [List.flatMap_cons, List.length_append, List.length_cons]
    have e : (khB h).length = (zaN h.key.length).length + h.key.length + (obB h.val).length := by unfold khB; simp only [List.length_append]
    omega
theorem rVLen {n : Nat} (h : n < 2147483648) {r : Bs} (hr : n ≤ r.length) : ((rVint (zaN n ++ r)).bind fun y => if (y.2.length : Int) < y.1 then none else some y) = some ((n : Int), r) := by
  rw [rVint_vint (by omega), Option.bind_some, if_neg (by show ¬ ((r.length : Int) < (n : Int)); omega)]
def rdB (x : Kr) : Bs := zaN x.len ++ (be 1 x.attr ++ (zaN x.d64 ++ (zaN x.off ++ (obB x.key ++ (obB x.val ++ (zaN x.hs.length ++ (x.hs.flatMap khB)))))))
theorem recDefault_c {w : World} {x : Value} : zan Tryd.prog 57 #[x] w fun _ w' => w' = w := by
  refine callsR_of0 Tryd.func57 rfl rfl Tryd.ntmps57 (by simp) ?_
  intro a hN hD ha
  exact wp_skip ⟨hD, rfl⟩
theorem hdDefault_c {w : World} {x : Value} : zan Tryd.prog 63 #[x] w fun _ w' => w' = w := by
  refine callsR_of0 Tryd.func63 rfl rfl Tryd.ntmps63 (by simp) ?_
  intro a hN hD ha
  exact wp_skip ⟨hD, rfl⟩
def HdS (M n : Nat) (oa : Option Addr) (G : Nat → Prop) (hs : List Kh) (w : World) (i : Nat) : Prop :=
  n = 0 ∨ ∃ B dn rs T, oa = some ⟨B, 0, none⟩ ∧ M ≤ B ∧ ¬ G B ∧ Blk w B (dn ++ rs) T ∧ dn.length = i * 2 ∧ n * 2 ≤ (dn ++ rs).length ∧ LsL 2 (KhC w G) (hs.take i) dn
theorem HdS.chg {M n : Nat} {oa : Option Addr} {G X : Nat → Prop} {hs : List Kh} {w w' : World} {i : Nat} (h : HdS M n oa G hs w i) (c : Chg X w w') (hB : ∀ B, M ≤ B → ¬ X B) (hX : ∀ k, G k → ¬ X k) : HdS M n oa G hs w' i := by
  rcases h with h | ⟨B, dn, rs, T, h1, h2, h3, h4, h5, h6, h7⟩
  · exact .inl h
  · exact .inr ⟨B, dn, rs, T, h1, h2, h3, h4.chg c (hB B h2), h5, h6, h7.stay one_kh (Stay.of c fun k hk _ => hX k hk)⟩
theorem recRead_c {w : World} {G : Nat → Prop} {x : Kr} {p : Nat} {T : TypeId} {oa : Option Addr} {cap : Nat} (hbt : zam w G oa (rdB x)) (hcap : (rdB x).length ≤ cap) (q : KrR x) (hL : KrL x) (hd : IntKind.i32.wrap x.d64 = x.d32)
    (hp : Blk w p [.int .i32 0, .int .i8 0, .int .i32 0, .int .i64 0, .int .i32 0, .slice none 0 0, .slice none 0 0, .slice none 0 0] T) (hGp : ¬ G p) :
    zan Tryd.prog 40 #[.pointer (some ⟨p, 0, none⟩), .slice oa (rdB x).length cap, .bool false] w fun v w' => v = .nilIface ∧ (∃ vs, Blk w' p vs T ∧ KrC w' (fun g => G g ∨ w.heap.size < g) x vs) ∧ Chg (fun k => k = p) w w' := by
  refine zaj Tryd.func40 rfl rfl Tryd.ntmps40 (by simp) ?_
  intro a hN hD hargs
  have h0 : get a 0 = .pointer (some ⟨p, 0, none⟩) := hargs 0 _ rfl
  have h1 : get a 1 = .slice oa (rdB x).length cap := hargs 1 _ rfl
  have h2 : get a 2 = .bool false := hargs 2 _ rfl
  have hpl := hp.lt
  have hLk := hL.key
  have hLv := hL.val
  have hLh := hL.hs
  obtain ⟨z1, z2, z3, z4, z5⟩ := q
  refine wp_seq_k fun K hK => ?_; refine zac ?_; (repeat ((with_reducible refine zah ?_ ?_ ?_); (· simp [evb, pvb, rnb, kb, hN, dyb, sdb] <;> omega); (· kernel_rfl); try simp only [evb, pvb, rnb, kb, hN, seval])); refine zaa ?_; refine hK _ _ ?_; clear hK K
  refine wp_seq_k fun K hK => ?_; refine zac ?_; (repeat ((with_reducible refine zah ?_ ?_ ?_); (· simp [evb, pvb, rnb, kb, hN, h0, dyb, sdb] <;> omega); (· kernel_rfl); try simp only [evb, pvb, rnb, kb, hN, seval, h0]))
  refine zak (fun args w => Tryd.call57 args w) (by simp only [List.map_toArray, List.map_cons, List.map_nil, evb, kb, hN, seval]; exact recDefault_c) ?_
  intro _ w0 hw
  replace hw := hw.symm
  subst hw
  refine zaa ?_; refine hK _ _ ?_; clear hK K
  refine wp_seq_k fun K hK => ?_; refine zac ?_; (repeat ((with_reducible refine zah ?_ ?_ ?_); (· simp [evb, pvb, rnb, kb, hN, h1, dyb, sdb] <;> omega); (· kernel_rfl); try simp only [evb, pvb, rnb, kb, hN, seval, h1]))
  refine wl_build (l := [.slice oa (rdB x).length cap, .bool false]) (by simp only [List.map_toArray, List.map_cons, List.map_nil, evb, kb, hN, seval]; kernel_rfl) ?_
  refine zaH (z := zax [.slice none 0 0, .bool false]) (fun w => Tryd.zeroValue90 w) fun w1 hc1 hb1 hs1 => ?_
  refine zaA (b := w.heap.size) (n := 2) (l' := [.slice oa (rdB x).length cap, .bool false]) (by kernel_rfl) (by simp only [evb, pvb, rnb, kb, hN, seval]) (by simp only [evb, pvb, rnb, kb, hN, seval]) hb1 rfl (by intro y hy; simp only [List.mem_cons, List.not_mem_nil, or_false] at hy; rcases hy with rfl | rfl <;> rfl) rfl fun w2 hb2 hc2 => ?_
  refine zaa ?_; refine hK _ _ ?_; clear hK K
  have hc02 : Chg (fun _ => False) w w2 := hc1.trans hc2 fun n hn h => by omega
  have hs2 := hc2.size
  have hm : w.heap.size < w2.heap.size := by omega
  obtain ⟨G', hG'⟩ : ∃ G' : Nat → Prop, G' = fun g => (G g ∧ g < w.heap.size) ∨ w.heap.size < g := ⟨_, rfl⟩
  have hR : ¬ G' w.heap.size := by rw [hG']; rintro (h | h) <;> omega
  have hGp' : ¬ G' p := by rw [hG']; rintro (h | h); (· exact hGp h.1); (· omega)
  have hf : ∀ k, w2.heap.size ≤ k → G' k := by rw [hG']; intro k hk; exact .inr (by omega)
  have hpR : ¬ w.heap.size = p := by omega
  have hRp : ¬ p = w.heap.size := by omega
  have hS : RdS w2 G' w.heap.size (some (rdB x)) := ⟨oa, cap, hb2, hcap, (hbt.mono (H := G') fun g hg hl => by rw [hG']; exact .inl ⟨hg, hl⟩).chg hc02 fun _ _ _ h => h⟩
  unfold rdB at hS
  have hb : Blk w2 p [.int .i32 0, .int .i8 0, .int .i32 0, .int .i64 0, .int .i32 0, .slice none 0 0, .slice none 0 0, .slice none 0 0] T := hp.chg hc02 fun h => h
  have hc : Chg (fun k => k = p ∨ k = w.heap.size) w2 w2 := Chg.refl _ _
  refine wp_seq_k fun K hK => ?_; refine zac ?_; (repeat ((with_reducible refine zah ?_ ?_ ?_); (· simp [evb, pvb, rnb, kb, hN, h0, dyb, sdb] <;> omega); (· kernel_rfl); try simp only [evb, pvb, rnb, kb, hN, seval, h0])); refine zaa ?_; refine hK _ _ ?_; clear hK K
  refine zaw fun a0 ha => ?_
  have hN' : a0.tmps.size = 108 := by rw [ha]; simp only [zaf]; exact hN
  have hD' : a0.defers = [] := by rw [ha]; simp only [zab]; exact hD
  have g2 : get a0 2 = .bool false := by rw [ha]; simp only [evb, pvb, rnb, kb, hN, seval, h2]
  have g7 : get a0 7 = .pointer (some ⟨w.heap.size, 0, none⟩) := by rw [ha]; simp only [evb, pvb, rnb, kb, hN, seval]
  have g8 : get a0 8 = .pointer (some ⟨p, 0, none⟩) := by rw [ha]; simp only [evb, pvb, rnb, kb, hN, seval]
  clear ha hN hD h0 h1 h2 hargs hb1 hb2 hs1 hcap hbt hp
  have hN := hN'
  have hD := hD'
  clear hN' hD'
  refine wp_seq_k fun K hK => ?_; refine wp_seq_k fun K1 hK1 => ?_; refine zac ?_; (repeat ((with_reducible refine zah ?_ ?_ ?_); (· simp [evb, pvb, rnb, kb, hN, g7, dyb, sdb] <;> omega); (· kernel_rfl); try simp only [evb, pvb, rnb, kb, hN, seval, g7]))
  refine wl_rdk (out := fun _ _ x v => v = .int .i32 x) (fun args w => Tryd.call58 args w) RVarint_k (by simp only [List.map_toArray, List.map_cons, List.map_nil]; simp only [evb, pvb, rnb, kb, hN, seval, g7]) hS hR (zaG hc hf) (rVint_vint z1 _) ?_
  rintro _ x0 rfl hx hS'
  (repeat ((with_reducible refine zah ?_ ?_ ?_); (· simp [evb, pvb, rnb, kb, hN, dyb, sdb] <;> omega); (· kernel_rfl); try simp only [evb, pvb, rnb, kb, hN, seval])); refine zaa ?_; refine hK1 _ _ ?_; try clear hK1 K1
  refine zac ?_; (repeat ((with_reducible refine zah ?_ ?_ ?_); (· simp [evb, pvb, rnb, kb, hN, g8, ofKR, dyb, sdb] <;> omega); (· kernel_rfl); try simp only [evb, pvb, rnb, kb, hN, seval, g8, ofKR]))
  refine zap (b := p) (o := 0) (n := 1) (v := .int .i32 x.len) (by kernel_rfl) (by simp only [evb, pvb, rnb, kb, hN, seval]) (by simp only [evb, pvb, rnb, kb, hN, seval]) (hb.chg hx hRp) rfl (by intro y hy; simp only [Value.cells, List.mem_singleton] at hy; subst hy; rfl) (by show 0 + 1 ≤ 8; omega) fun y0 hy hcy => ?_
  refine zaa ?_; refine hK _ _ ?_; clear hK K
  have hb' : Blk y0 p [.int .i32 x.len, .int .i8 0, .int .i32 0, .int .i64 0, .int .i32 0, .slice none 0 0, .slice none 0 0, .slice none 0 0] T := hy
  have hS2 : RdS y0 G' w.heap.size (some (be 1 x.attr ++ (zaN x.d64 ++ (zaN x.off ++ (obB x.key ++ (obB x.val ++ (zaN x.hs.length ++ (x.hs.flatMap khB)))))))) := hS'.chg hcy hpR fun k hk _ e => hGp' (e ▸ hk)
  have hc' : Chg (fun k => k = p ∨ k = w.heap.size) w2 y0 := (hc.trans hx fun _ _ h => .inr h).trans hcy fun _ _ h => .inl h
  refine zaw fun a1 ha => ?_
  have hN' : a1.tmps.size = 108 := by rw [ha]; simp only [zaf]; exact hN
  have hD' : a1.defers = [] := by rw [ha]; simp only [zab]; exact hD
  have g2' : get a1 2 = .bool false := by rw [ha]; simp only [evb, pvb, rnb, kb, hN, seval, g2]
  have g7' : get a1 7 = .pointer (some ⟨w.heap.size, 0, none⟩) := by rw [ha]; simp only [evb, pvb, rnb, kb, hN, seval, g7]
  have g8' : get a1 8 = .pointer (some ⟨p, 0, none⟩) := by rw [ha]; simp only [evb, pvb, rnb, kb, hN, seval, g8]
  clear ha hN hD g2 g7 g8 hb hS hS' hx hcy hy hc
  have hN := hN'
  have hD := hD'
  have g2 := g2'
  have g7 := g7'
  have g8 := g8'
  have hb := hb'
  have hS := hS2
  have hc := hc'
  clear hN' hD' g2' g7' g8' hb' hS2 hc'
  refine wp_seq_k fun K hK => ?_; refine wp_seq_k fun K1 hK1 => ?_; refine zac ?_; (repeat ((with_reducible refine zah ?_ ?_ ?_); (· simp [evb, pvb, rnb, kb, hN, g7, dyb, sdb] <;> omega); (· kernel_rfl); try simp only [evb, pvb, rnb, kb, hN, seval, g7]))
  refine wl_rdk (out := fun _ _ x v => v = .int .i8 x) (fun args w => Tryd.call50 args w) (RdOk.of Int8_c fun _ _ _ _ _ h => h) (by simp only [List.map_toArray, List.map_cons, List.map_nil]; simp only [evb, pvb, rnb, kb, hN, seval, g7]) hS hR (zaG hc hf) (rS_be 1 x.attr _ (by omega) (by omega)) ?_
  rintro _ x1 rfl hx hS'
  (repeat ((with_reducible refine zah ?_ ?_ ?_); (· simp [evb, pvb, rnb, kb, hN, dyb, sdb] <;> omega); (· kernel_rfl); try simp only [evb, pvb, rnb, kb, hN, seval])); refine zaa ?_; refine hK1 _ _ ?_; try clear hK1 K1
  refine zac ?_; (repeat ((with_reducible refine zah ?_ ?_ ?_); (· simp [evb, pvb, rnb, kb, hN, g8, ofKR, dyb, sdb] <;> omega); (· kernel_rfl); try simp only [evb, pvb, rnb, kb, hN, seval, g8, ofKR]))
  refine zap (b := p) (o := 1) (n := 1) (v := .int .i8 x.attr) (by kernel_rfl) (by simp only [evb, pvb, rnb, kb, hN, seval]) (by simp only [evb, pvb, rnb, kb, hN, seval]) (hb.chg hx hRp) rfl (by intro y hy; simp only [Value.cells, List.mem_singleton] at hy; subst hy; rfl) (by show 1 + 1 ≤ 8; omega) fun y1 hy hcy => ?_
  refine zaa ?_; refine hK _ _ ?_; clear hK K
  have hb' : Blk y1 p [.int .i32 x.len, .int .i8 x.attr, .int .i32 0, .int .i64 0, .int .i32 0, .slice none 0 0, .slice none 0 0, .slice none 0 0] T := hy
  have hS2 : RdS y1 G' w.heap.size (some (zaN x.d64 ++ (zaN x.off ++ (obB x.key ++ (obB x.val ++ (zaN x.hs.length ++ (x.hs.flatMap khB))))))) := hS'.chg hcy hpR fun k hk _ e => hGp' (e ▸ hk)
  have hc' : Chg (fun k => k = p ∨ k = w.heap.size) w2 y1 := (hc.trans hx fun _ _ h => .inr h).trans hcy fun _ _ h => .inl h
  refine zaw fun a2 ha => ?_
  have hN' : a2.tmps.size = 108 := by rw [ha]; simp only [zaf]; exact hN
  have hD' : a2.defers = [] := by rw [ha]; simp only [zab]; exact hD
  have g2' : get a2 2 = .bool false := by rw [ha]; simp only [evb, pvb, rnb, kb, hN, seval, g2]
  have g7' : get a2 7 = .pointer (some ⟨w.heap.size, 0, none⟩) := by rw [ha]; simp only [evb, pvb, rnb, kb, hN, seval, g7]
  have g8' : get a2 8 = .pointer (some ⟨p, 0, none⟩) := by rw [ha]; simp only [evb, pvb, rnb, kb, hN, seval, g8]
  clear ha hN hD g2 g7 g8 hb hS hS' hx hcy hy hc
  have hN := hN'
  have hD := hD'
  have g2 := g2'
  have g7 := g7'
  have g8 := g8'
  have hb := hb'
  have hS := hS2
  have hc := hc'
  clear hN' hD' g2' g7' g8' hb' hS2 hc'
  refine wp_seq_k fun K hK => ?_; refine wp_seq_k fun K1 hK1 => ?_; refine zac ?_; (repeat ((with_reducible refine zah ?_ ?_ ?_); (· simp [evb, pvb, rnb, kb, hN, g7, dyb, sdb] <;> omega); (· kernel_rfl); try simp only [evb, pvb, rnb, kb, hN, seval, g7]))
  refine wl_rdk (out := fun _ _ x v => v = .int .i64 x) (fun args w => Tryd.call59 args w) RVarlong_k (by simp only [List.map_toArray, List.map_cons, List.map_nil]; simp only [evb, pvb, rnb, kb, hN, seval, g7]) hS hR (zaG hc hf) (rVlong_vint z4 _) ?_
  rintro _ x2 rfl hx hS'
  (repeat ((with_reducible refine zah ?_ ?_ ?_); (· simp [evb, pvb, rnb, kb, hN, dyb, sdb] <;> omega); (· kernel_rfl); try simp only [evb, pvb, rnb, kb, hN, seval])); refine zaa ?_; refine hK1 _ _ ?_; try clear hK1 K1
  refine wp_seq_k fun K1 hK1 => ?_
  refine zac ?_; (repeat ((with_reducible refine zah ?_ ?_ ?_); (· simp [evb, pvb, rnb, kb, hN, g8, ofKR, dyb, sdb] <;> omega); (· kernel_rfl); try simp only [evb, pvb, rnb, kb, hN, seval, g8, ofKR]))
  refine zap (b := p) (o := 3) (n := 1) (v := .int .i64 x.d64) (by kernel_rfl) (by simp only [evb, pvb, rnb, kb, hN, seval]) (by simp only [evb, pvb, rnb, kb, hN, seval]) (hb.chg hx hRp) rfl (by intro y hy; simp only [Value.cells, List.mem_singleton] at hy; subst hy; rfl) (by show 3 + 1 ≤ 8; omega) fun y2 hy hcy => ?_
  refine zaa ?_; refine hK1 _ _ ?_; try clear hK1 K1
  have hb3 : Blk y2 p [.int .i32 x.len, .int .i8 x.attr, .int .i32 0, .int .i64 x.d64, .int .i32 0, .slice none 0 0, .slice none 0 0, .slice none 0 0] T := hy
  have hS3 := hS'.chg hcy hpR fun k hk _ e => hGp' (e ▸ hk)
  refine zac ?_; (repeat ((with_reducible refine zah ?_ ?_ ?_); (· simp [evb, pvb, rnb, kb, hN, g8, ofKR, hd, dyb, sdb] <;> omega); (· kernel_rfl); try simp only [evb, pvb, rnb, kb, hN, seval, g8, ofKR, hd]))
  refine zap (b := p) (o := 2) (n := 1) (v := .int .i32 x.d32) (by kernel_rfl) (by simp only [evb, pvb, rnb, kb, hN, seval]) (by simp only [evb, pvb, rnb, kb, hN, seval]) hb3 rfl (by intro y hy; simp only [Value.cells, List.mem_singleton] at hy; subst hy; rfl) (by show 2 + 1 ≤ 8; omega) fun u2 hu hcu => ?_
  refine zaa ?_; refine hK _ _ ?_; clear hK K
  have hb' : Blk u2 p [.int .i32 x.len, .int .i8 x.attr, .int .i32 x.d32, .int .i64 x.d64, .int .i32 0, .slice none 0 0, .slice none 0 0, .slice none 0 0] T := hu
  have hS2 : RdS u2 G' w.heap.size (some (zaN x.off ++ (obB x.key ++ (obB x.val ++ (zaN x.hs.length ++ (x.hs.flatMap khB)))))) := hS3.chg hcu hpR fun k hk _ e => hGp' (e ▸ hk)
  have hc' : Chg (fun k => k = p ∨ k = w.heap.size) w2 u2 := ((hc.trans hx fun _ _ h => .inr h).trans hcy fun _ _ h => .inl h).trans hcu fun _ _ h => .inl h
  refine zaw fun a3 ha => ?_
  have hN' : a3.tmps.size = 108 := by rw [ha]; simp only [zaf]; exact hN
  have hD' : a3.defers = [] := by rw [ha]; simp only [zab]; exact hD
  have g2' : get a3 2 = .bool false := by rw [ha]; simp only [evb, pvb, rnb, kb, hN, seval, g2]
  have g7' : get a3 7 = .pointer (some ⟨w.heap.size, 0, none⟩) := by rw [ha]; simp only [evb, pvb, rnb, kb, hN, seval, g7]
  have g8' : get a3 8 = .pointer (some ⟨p, 0, none⟩) := by rw [ha]; simp only [evb, pvb, rnb, kb, hN, seval, g8]
  clear ha hN hD g2 g7 g8 hb hS hS' hx hcy hy hc hb3 hS3 hu hcu
  have hN := hN'
  have hD := hD'
  have g2 := g2'
  have g7 := g7'
  have g8 := g8'
  have hb := hb'
  have hS := hS2
  have hc := hc'
  clear hN' hD' g2' g7' g8' hb' hS2 hc'
  refine wp_seq_k fun K hK => ?_; refine wp_seq_k fun K1 hK1 => ?_; refine zac ?_; (repeat ((with_reducible refine zah ?_ ?_ ?_); (· simp [evb, pvb, rnb, kb, hN, g7, dyb, sdb] <;> omega); (· kernel_rfl); try simp only [evb, pvb, rnb, kb, hN, seval, g7]))
  refine wl_rdk (out := fun _ _ x v => v = .int .i32 x) (fun args w => Tryd.call58 args w) RVarint_k (by simp only [List.map_toArray, List.map_cons, List.map_nil]; simp only [evb, pvb, rnb, kb, hN, seval, g7]) hS hR (zaG hc hf) (rVint_vint z5 _) ?_
  rintro _ x3 rfl hx hS'
  (repeat ((with_reducible refine zah ?_ ?_ ?_); (· simp [evb, pvb, rnb, kb, hN, dyb, sdb] <;> omega); (· kernel_rfl); try simp only [evb, pvb, rnb, kb, hN, seval])); refine zaa ?_; refine hK1 _ _ ?_; try clear hK1 K1
  refine zac ?_; (repeat ((with_reducible refine zah ?_ ?_ ?_); (· simp [evb, pvb, rnb, kb, hN, g8, ofKR, dyb, sdb] <;> omega); (· kernel_rfl); try simp only [evb, pvb, rnb, kb, hN, seval, g8, ofKR]))
  refine zap (b := p) (o := 4) (n := 1) (v := .int .i32 x.off) (by kernel_rfl) (by simp only [evb, pvb, rnb, kb, hN, seval]) (by simp only [evb, pvb, rnb, kb, hN, seval]) (hb.chg hx hRp) rfl (by intro y hy; simp only [Value.cells, List.mem_singleton] at hy; subst hy; rfl) (by show 4 + 1 ≤ 8; omega) fun y3 hy hcy => ?_
  refine zaa ?_; refine hK _ _ ?_; clear hK K
  have hb' : Blk y3 p [.int .i32 x.len, .int .i8 x.attr, .int .i32 x.d32, .int .i64 x.d64, .int .i32 x.off, .slice none 0 0, .slice none 0 0, .slice none 0 0] T := hy
  have hS2 : RdS y3 G' w.heap.size (some (obB x.key ++ (obB x.val ++ (zaN x.hs.length ++ (x.hs.flatMap khB))))) := hS'.chg hcy hpR fun k hk _ e => hGp' (e ▸ hk)
  have hc' : Chg (fun k => k = p ∨ k = w.heap.size) w2 y3 := (hc.trans hx fun _ _ h => .inr h).trans hcy fun _ _ h => .inl h
  refine zaw fun a4 ha => ?_
  have hN' : a4.tmps.size = 108 := by rw [ha]; simp only [zaf]; exact hN
  have hD' : a4.defers = [] := by rw [ha]; simp only [zab]; exact hD
  have g2' : get a4 2 = .bool false := by rw [ha]; simp only [evb, pvb, rnb, kb, hN, seval, g2]
  have g7' : get a4 7 = .pointer (some ⟨w.heap.size, 0, none⟩) := by rw [ha]; simp only [evb, pvb, rnb, kb, hN, seval, g7]
  have g8' : get a4 8 = .pointer (some ⟨p, 0, none⟩) := by rw [ha]; simp only [evb, pvb, rnb, kb, hN, seval, g8]
  clear ha hN hD g2 g7 g8 hb hS hS' hx hcy hy hc
  have hN := hN'
  have hD := hD'
  have g2 := g2'
  have g7 := g7'
  have g8 := g8'
  have hb := hb'
  have hS := hS2
  have hc := hc'
  clear hN' hD' g2' g7' g8' hb' hS2 hc'
  refine wp_seq_k fun K hK => ?_; refine wp_seq_k fun K1 hK1 => ?_; refine zac ?_; (repeat ((with_reducible refine zah ?_ ?_ ?_); (· simp [evb, pvb, rnb, kb, hN, g7, dyb, sdb] <;> omega); (· kernel_rfl); try simp only [evb, pvb, rnb, kb, hN, seval, g7]))
  refine wl_rdk (out := outNB) (fun args w => Tryd.call60 args w) VarintBytes_k (by simp only [List.map_toArray, List.map_cons, List.map_nil]; simp only [evb, pvb, rnb, kb, hN, seval, g7]) hS hR (zaG hc hf) (rVBytes_obB (by omega) _) ?_
  intro vk x4 ovk hx hS'
  have onevk := ovk.one
  (repeat ((with_reducible refine zah ?_ ?_ ?_); (· simp [evb, pvb, rnb, kb, hN, dyb, sdb] <;> omega); (· kernel_rfl); try simp only [evb, pvb, rnb, kb, hN, seval])); refine zaa ?_; refine hK1 _ _ ?_; try clear hK1 K1
  refine zac ?_; (repeat ((with_reducible refine zah ?_ ?_ ?_); (· simp [evb, pvb, rnb, kb, hN, g8, ofKR, dyb, sdb] <;> omega); (· kernel_rfl); try simp only [evb, pvb, rnb, kb, hN, seval, g8, ofKR]))
  refine zap (b := p) (o := 5) (n := 1) (v := vk) (by kernel_rfl) (by simp only [evb, pvb, rnb, kb, hN, seval]) (by simp only [evb, pvb, rnb, kb, hN, seval]) (hb.chg hx hRp) (by rw [onevk.2]; rfl) (by rw [onevk.2]; intro y hy; simp only [List.mem_singleton] at hy; subst hy; exact onevk.1) (by show 5 + 1 ≤ 8; omega) fun y4 hy hcy => ?_
  rw [onevk.2] at hy
  refine zaa ?_; refine hK _ _ ?_; clear hK K
  have hb' : Blk y4 p [.int .i32 x.len, .int .i8 x.attr, .int .i32 x.d32, .int .i64 x.d64, .int .i32 x.off, vk, .slice none 0 0, .slice none 0 0] T := hy
  have hS2 : RdS y4 G' w.heap.size (some (obB x.val ++ (zaN x.hs.length ++ (x.hs.flatMap khB)))) := hS'.chg hcy hpR fun k hk _ e => hGp' (e ▸ hk)
  have hc' : Chg (fun k => k = p ∨ k = w.heap.size) w2 y4 := (hc.trans hx fun _ _ h => .inr h).trans hcy fun _ _ h => .inl h
  replace ovk := ovk.chg hcy fun k hk _ e => hGp' (e ▸ hk)
  refine zaw fun a5 ha => ?_
  have hN' : a5.tmps.size = 108 := by rw [ha]; simp only [zaf]; exact hN
  have hD' : a5.defers = [] := by rw [ha]; simp only [zab]; exact hD
  have g2' : get a5 2 = .bool false := by rw [ha]; simp only [evb, pvb, rnb, kb, hN, seval, g2]
  have g7' : get a5 7 = .pointer (some ⟨w.heap.size, 0, none⟩) := by rw [ha]; simp only [evb, pvb, rnb, kb, hN, seval, g7]
  have g8' : get a5 8 = .pointer (some ⟨p, 0, none⟩) := by rw [ha]; simp only [evb, pvb, rnb, kb, hN, seval, g8]
  clear ha hN hD g2 g7 g8 hb hS hS' hx hcy hy hc
  have hN := hN'
  have hD := hD'
  have g2 := g2'
  have g7 := g7'
  have g8 := g8'
  have hb := hb'
  have hS := hS2
  have hc := hc'
  clear hN' hD' g2' g7' g8' hb' hS2 hc'
  refine wp_seq_k fun K hK => ?_; refine wp_seq_k fun K1 hK1 => ?_; refine zac ?_; (repeat ((with_reducible refine zah ?_ ?_ ?_); (· simp [evb, pvb, rnb, kb, hN, g7, dyb, sdb] <;> omega); (· kernel_rfl); try simp only [evb, pvb, rnb, kb, hN, seval, g7]))
  refine wl_rdk (out := outNB) (fun args w => Tryd.call60 args w) VarintBytes_k (by simp only [List.map_toArray, List.map_cons, List.map_nil]; simp only [evb, pvb, rnb, kb, hN, seval, g7]) hS hR (zaG hc hf) (rVBytes_obB (by omega) _) ?_
  intro vv x5 ovv hx hS'
  have onevv := ovv.one
  (repeat ((with_reducible refine zah ?_ ?_ ?_); (· simp [evb, pvb, rnb, kb, hN, dyb, sdb] <;> omega); (· kernel_rfl); try simp only [evb, pvb, rnb, kb, hN, seval])); refine zaa ?_; refine hK1 _ _ ?_; try clear hK1 K1
  refine zac ?_; (repeat ((with_reducible refine zah ?_ ?_ ?_); (· simp [evb, pvb, rnb, kb, hN, g8, ofKR, dyb, sdb] <;> omega); (· kernel_rfl); try simp only [evb, pvb, rnb, kb, hN, seval, g8, ofKR]))
  refine zap (b := p) (o := 6) (n := 1) (v := vv) (by kernel_rfl) (by simp only [evb, pvb, rnb, kb, hN, seval]) (by simp only [evb, pvb, rnb, kb, hN, seval]) (hb.chg hx hRp) (by rw [onevv.2]; rfl) (by rw [onevv.2]; intro y hy; simp only [List.mem_singleton] at hy; subst hy; exact onevv.1) (by show 6 + 1 ≤ 8; omega) fun y5 hy hcy => ?_
  rw [onevv.2] at hy
  refine zaa ?_; refine hK _ _ ?_; clear hK K
  have hb' : Blk y5 p [.int .i32 x.len, .int .i8 x.attr, .int .i32 x.d32, .int .i64 x.d64, .int .i32 x.off, vk, vv, .slice none 0 0] T := hy
  have hS2 : RdS y5 G' w.heap.size (some (zaN x.hs.length ++ (x.hs.flatMap khB))) := hS'.chg hcy hpR fun k hk _ e => hGp' (e ▸ hk)
  have hc' : Chg (fun k => k = p ∨ k = w.heap.size) w2 y5 := (hc.trans hx fun _ _ h => .inr h).trans hcy fun _ _ h => .inl h
  replace ovk := (ovk.chg hx fun k hk _ e => hR (e ▸ hk)).chg hcy fun k hk _ e => hGp' (e ▸ hk)
  replace ovv := ovv.chg hcy fun k hk _ e => hGp' (e ▸ hk)
  refine zaw fun a6 ha => ?_
  have hN' : a6.tmps.size = 108 := by rw [ha]; simp only [zaf]; exact hN
  have hD' : a6.defers = [] := by rw [ha]; simp only [zab]; exact hD
  have g2' : get a6 2 = .bool false := by rw [ha]; simp only [evb, pvb, rnb, kb, hN, seval, g2]
  have g7' : get a6 7 = .pointer (some ⟨w.heap.size, 0, none⟩) := by rw [ha]; simp only [evb, pvb, rnb, kb, hN, seval, g7]
  have g8' : get a6 8 = .pointer (some ⟨p, 0, none⟩) := by rw [ha]; simp only [evb, pvb, rnb, kb, hN, seval, g8]
  clear ha hN hD g2 g7 g8 hb hS hS' hx hcy hy hc
  have hN := hN'
  have hD := hD'
  have g2 := g2'
  have g7 := g7'
  have g8 := g8'
  have hb := hb'
  have hS := hS2
  have hc := hc'
  clear hN' hD' g2' g7' g8' hb' hS2 hc'
  have l7 := hb.ld (i := 7) (v := .slice none 0 0) rfl
  refine wp_seq_k fun K hK => ?_; refine wp_seq_k fun K1 hK1 => ?_; refine zac ?_; (repeat ((with_reducible refine zah ?_ ?_ ?_); (· simp [evb, pvb, rnb, kb, hN, g8, ofKR, l7, dyb, sdb] <;> omega); (· kernel_rfl); try simp only [evb, pvb, rnb, kb, hN, seval, g8, ofKR, l7])); refine zaa ?_; refine hK1 _ _ ?_; try clear hK1 K1
  refine wp_seq_k fun K1 hK1 => ?_; refine zac ?_; (repeat ((with_reducible refine zah ?_ ?_ ?_); (· simp [evb, pvb, rnb, kb, hN, dyb, sdb] <;> omega); (· kernel_rfl); try simp only [evb, pvb, rnb, kb, hN, seval])); refine zaa ?_; refine hK1 _ _ ?_; try clear hK1 K1
  refine wp_seq_k fun K1 hK1 => ?_; refine zac ?_; (repeat ((with_reducible refine zah ?_ ?_ ?_); (· simp [evb, pvb, rnb, kb, hN, g7, dyb, sdb] <;> omega); (· kernel_rfl); try simp only [evb, pvb, rnb, kb, hN, seval, g7]))
  refine wl_rdk (out := fun _ _ x v => v = .int .i32 x) (fun args w => Tryd.call61 args w) VarintArrayLen_k (by simp only [List.map_toArray, List.map_cons, List.map_nil]; simp only [evb, pvb, rnb, kb, hN, seval, g7]) hS hR (zaG hc hf) (rVLen (by omega) (Nat.le_trans (by omega) (flat_kh_ge x.hs))) ?_
  rintro _ x6 rfl hx hS'
  (repeat ((with_reducible refine zah ?_ ?_ ?_); (· simp [evb, pvb, rnb, kb, hN, dyb, sdb] <;> omega); (· kernel_rfl); try simp only [evb, pvb, rnb, kb, hN, seval])); refine zaa ?_; refine hK1 _ _ ?_; try clear hK1 K1
  replace hc := hc.trans hx fun _ _ h => .inr h
  replace hb := hb.chg hx hRp
  replace ovk := ovk.chg hx fun k hk _ e => hR (e ▸ hk)
  replace ovv := ovv.chg hx fun k hk _ e => hR (e ▸ hk)
  clear hS hx l7
  have hS := hS'
  clear hS'
  refine wp_seq_k fun K1 hK1 => ?_
  refine wp_seq_k fun K2 hK2 => ?_; refine zac ?_; (repeat ((with_reducible refine zah ?_ ?_ ?_); (· simp [evb, pvb, rnb, kb, hN, g7, dyb, sdb] <;> omega); (· kernel_rfl); try simp only [evb, pvb, rnb, kb, hN, seval, g7]))
  refine zak (fun args w => Tryd.call62 args w) (by simp only [List.map_toArray, List.map_cons, List.map_nil, evb, kb, hN, seval, g7]; exact Ok_c hS) ?_
  intro _ w0 hw
  obtain ⟨rfl, hw⟩ := hw
  replace hw := hw.symm
  subst hw
  (repeat ((with_reducible refine zah ?_ ?_ ?_); (· simp [evb, pvb, rnb, kb, hN, dyb, sdb] <;> omega); (· kernel_rfl); try simp only [evb, pvb, rnb, kb, hN, seval])); refine zaa ?_; refine hK2 _ _ ?_; try clear hK2 K2
  refine wp_cond_false (by simp [evb, kb, hN, sdb]) ?_
  refine wp_skip ?_
  refine hK1 _ _ ?_; try clear hK1 K1
  refine wp_seq_k fun K1 hK1 => ?_; refine zac ?_; (repeat ((with_reducible refine zah ?_ ?_ ?_); (· simp [evb, pvb, rnb, kb, hN, dyb, sdb] <;> omega); (· kernel_rfl); try simp only [evb, pvb, rnb, kb, hN, seval])); refine zaa ?_; refine hK1 _ _ ?_; try clear hK1 K1
  refine wp_seq_k fun K1 hK1 => ?_
  refine wp_seq_k fun K2 hK2 => ?_; refine zac ?_; (repeat ((with_reducible refine zah ?_ ?_ ?_); (· simp [evb, pvb, rnb, kb, hN, dyb, sdb] <;> omega); (· kernel_rfl); try simp only [evb, pvb, rnb, kb, hN, seval])); refine zaa ?_; refine hK2 _ _ ?_; try clear hK2 K2
  refine wp_joinW (Q1 := K1) (fun a' w' => ∃ (oh : Option Addr) (ch : Nat) (G2 : Nat → Prop), a'.tmps.size = 108 ∧ a'.defers = [] ∧ get a' 2 = .bool false ∧ get a' 7 = .pointer (some ⟨w.heap.size, 0, none⟩) ∧ get a' 8 = .pointer (some ⟨p, 0, none⟩) ∧ get a' 17 = .int .i32 x.hs.length ∧ get a' 16 = .slice oh x.hs.length ch ∧ x.hs.length ≤ ch ∧
    (∀ k, G2 k → G' k) ∧ (∀ k, w'.heap.size ≤ k → G2 k) ∧ HdS w2.heap.size x.hs.length oh G2 x.hs w' 0 ∧ RdS w' G2 w.heap.size (some (x.hs.flatMap khB)) ∧ outNB w' G2 x.key vk ∧ outNB w' G2 x.val vv ∧ Blk w' p [.int .i32 x.len, .int .i8 x.attr, .int .i32 x.d32, .int .i64 x.d64, .int .i32 x.off, vk, vv, .slice none 0 0] T ∧ Chg (fun k => k = p ∨ k = w.heap.size) w2 w') ?_ fun fin => ?_
  rotate_left
  · by_cases hz : x.hs.length = 0
    · have d1 : decide ((0 : Int) < (x.hs.length : Int)) = false := decide_eq_false (by omega)
      refine wp_cond_false (by simp only [evb, pvb, rnb, kb, hN, seval, d1]) ?_
      refine wp_skip (fin _ _ ⟨none, 0, G', by simp only [zaf, hN], by simp only [zab, hD], by simp only [evb, pvb, rnb, kb, hN, seval, g2], by simp only [evb, pvb, rnb, kb, hN, seval, g7], by simp only [evb, pvb, rnb, kb, hN, seval, g8], by simp only [evb, pvb, rnb, kb, hN, seval], by simp only [evb, pvb, rnb, kb, hN, seval, hz], by omega, fun _ h => h, zaG hc hf, .inl hz, hS, ovk, ovv, hb, hc⟩)
    · have d1 : decide ((0 : Int) < (x.hs.length : Int)) = true := decide_eq_true (by omega)
      refine wp_cond_true (by simp only [evb, pvb, rnb, kb, hN, seval, d1]) ?_
      refine zac ?_; (repeat ((with_reducible refine zah ?_ ?_ ?_); (· simp [evb, pvb, rnb, kb, hN, dyb, sdb] <;> omega); (· kernel_rfl); try simp only [evb, pvb, rnb, kb, hN, seval]))
      have hs6 := hc.size
      have up : ∀ k, k < x6.heap.size → G' k → ((G' k ∧ k < x6.heap.size) ∨ x6.heap.size < k) := fun k hk h => .inl ⟨h, hk⟩
      refine wl_room (k := .i32) (sz := 2) (n := x.hs.length) (z := zax [.string ⟨#[]⟩, .slice none 0 0]) (oa := none) (by kernel_rfl) (by kernel_rfl) (fun e he => by
        have he' : Tryd.prog.underlying 51 = some (.slice 57) := by kernel_rfl
        rw [he'] at he
        cases he
        exact fun w => Tryd.zeroValue57 w) rfl (by simp only [evb, pvb, rnb, kb, hN, seval]) (by simp only [evb, pvb, rnb, kb, hN, seval]) (by omega) (by omega) fun w7 ch cs TB hc7 hb7 hch hcs hcz hs7 => ?_
      (repeat ((with_reducible refine zah ?_ ?_ ?_); (· simp [evb, pvb, rnb, kb, hN, dyb, sdb] <;> omega); (· kernel_rfl); try simp only [evb, pvb, rnb, kb, hN, seval])); refine zaa ?_
      have hGB : ¬ ((G' x6.heap.size ∧ x6.heap.size < x6.heap.size) ∨ x6.heap.size < x6.heap.size) := by omega
      refine fin _ _ ⟨some ⟨x6.heap.size, 0, none⟩, ch, fun k => (G' k ∧ k < x6.heap.size) ∨ x6.heap.size < k, by simp only [zaf, hN], by simp only [zab, hD], by simp only [evb, pvb, rnb, kb, hN, seval, g2], by simp only [evb, pvb, rnb, kb, hN, seval, g7], by simp only [evb, pvb, rnb, kb, hN, seval, g8], by simp only [evb, pvb, rnb, kb, hN, seval], by simp only [evb, pvb, rnb, kb, hN, seval], hch, ?_, fun k hk => .inr (by omega), .inr ⟨x6.heap.size, [], cs, TB, rfl, by omega, hGB, hb7, rfl, hcs, trivial⟩, ?_, (ovk.mono up).chg hc7 fun _ _ _ h => h, (ovv.mono up).chg hc7 fun _ _ _ h => h, hb.chg hc7 fun h => h, hc.trans hc7 fun _ _ h => h.elim⟩
      · rintro k (h | h)
        · exact h.1
        · exact zaG hc hf k (by omega)
      · exact (hS.stay (w' := x6) (Stay.sub up) rfl).chg hc7 (fun h => h) fun _ _ _ h => h
  clear hN hD g2 g7 g8 hb hS hc ovk ovv
  rintro a7 w7 ⟨oh, ch, G2, hN, hD, g2, g7, g8, g17, g16, hch, hG2, hf2, hH, hS, ovk, ovv, hb, hc⟩
  have hR2 : ¬ G2 w.heap.size := fun h => hR (hG2 _ h)
  have hGp2 : ¬ G2 p := fun h => hGp' (hG2 _ h)
  refine hK1 _ _ ?_
  clear hK1 K1
  refine wp_seq_k fun K1 hK1 => ?_
  refine wp_seq_k fun K2 hK2 => ?_; refine zac ?_; (repeat ((with_reducible refine zah ?_ ?_ ?_); (· simp [evb, pvb, rnb, kb, hN, dyb, sdb] <;> omega); (· kernel_rfl); try simp only [evb, pvb, rnb, kb, hN, seval])); refine zaa ?_; refine hK2 _ _ ?_; try clear hK2 K2
  refine wp_block ?_
  refine wp_loop (fun a' w' => ∃ i : Nat, i ≤ x.hs.length ∧ a'.tmps.size = 108 ∧ a'.defers = [] ∧ get a' 2 = .bool false ∧ get a' 7 = .pointer (some ⟨w.heap.size, 0, none⟩) ∧ get a' 8 = .pointer (some ⟨p, 0, none⟩) ∧ get a' 17 = .int .i32 x.hs.length ∧ get a' 16 = .slice oh x.hs.length ch ∧ get a' 18 = .int .i32 i ∧
    (∀ k, w'.heap.size ≤ k → G2 k) ∧ HdS w2.heap.size x.hs.length oh G2 x.hs w' i ∧ RdS w' G2 w.heap.size (some ((x.hs.drop i).flatMap khB)) ∧ outNB w' G2 x.key vk ∧ outNB w' G2 x.val vv ∧ Blk w' p [.int .i32 x.len, .int .i8 x.attr, .int .i32 x.d32, .int .i64 x.d64, .int .i32 x.off, vk, vv, .slice none 0 0] T ∧ Chg (fun k => k = p ∨ k = w.heap.size) w2 w')
    (fun a' _ => x.hs.length - (intOf (get a' 18)).toNat) ⟨0, Nat.zero_le _, by simp only [zaf, hN], by simp only [zab, hD], by simp only [evb, pvb, rnb, kb, hN, seval, g2], by simp only [evb, pvb, rnb, kb, hN, seval, g7], by simp only [evb, pvb, rnb, kb, hN, seval, g8], by simp only [evb, pvb, rnb, kb, hN, seval, g17], by simp only [evb, pvb, rnb, kb, hN, seval, g16], by simp only [evb, pvb, rnb, kb, hN, seval], hf2, hH, hS, ovk, ovv, hb, hc⟩ ?_
  clear hN hD g2 g7 g8 g17 g16 hH hS ovk ovv hb hc hf2
  rintro a8 w8 ⟨i, hi, hN, hD, g2, g7, g8, g17, g16, g18, hf2, hH, hS, ovk, ovv, hb, hc⟩
  refine wp_seq_k fun K2 hK2 => ?_
  refine wp_seq_k fun K3 hK3 => ?_; refine zac ?_; (repeat ((with_reducible refine zah ?_ ?_ ?_); (· simp [evb, pvb, rnb, kb, hN, g17, g18, dyb, sdb] <;> omega); (· kernel_rfl); try simp only [evb, pvb, rnb, kb, hN, seval, g17, g18])); refine zaa ?_; refine hK3 _ _ ?_; try clear hK3 K3
  by_cases hlt : i < x.hs.length
  · have d1 : decide ((i : Int) < (x.hs.length : Int)) = true := decide_eq_true (by omega)
    refine wp_cond_true (by simp only [evb, pvb, rnb, kb, hN, seval, d1]) ?_
    refine wp_skip ?_
    refine hK2 _ _ ?_; try clear hK2 K2
    refine wp_seq_k fun K2 hK2 => ?_
    refine wp_block ?_
    obtain ⟨B, dn, rs, TB, rfl, hBR, hGB, hbB, hdn, hln, hrow⟩ := hH.resolve_left (by omega)
    have hdrop : x.hs.drop i = x.hs[i] :: x.hs.drop (i + 1) := List.drop_eq_getElem_cons hlt
    have htake : x.hs.take (i + 1) = x.hs.take i ++ [x.hs[i]] := by rw [List.take_succ, List.getElem?_eq_getElem hlt]; rfl
    have hyL := hL.hk x.hs[i] (List.getElem_mem hlt)
    generalize x.hs[i] = y at hdrop htake hyL
    have hS0 : RdS w8 G2 w.heap.size (some (zaN y.key.length ++ (y.key ++ (obB y.val ++ (x.hs.drop (i + 1)).flatMap khB)))) := by
      have e : (x.hs.drop i).flatMap khB = zaN y.key.length ++ (y.key ++ (obB y.val ++ (x.hs.drop (i + 1)).flatMap khB)) := by
        rw [hdrop, List.flatMap_cons]
        show zaN y.key.length ++ y.key ++ obB y.val ++ _ = _
        simp only [List.append_assoc]
      rw [← e]; exact hS
    clear hS hH
    refine wp_seq_k fun K3 hK3 => ?_; refine zac ?_; (repeat ((with_reducible refine zah ?_ ?_ ?_); (· simp [evb, pvb, rnb, kb, hN, g16, g18, ofKR, Int.toNat_natCast, dyb, sdb] <;> omega); (· kernel_rfl); try simp only [evb, pvb, rnb, kb, hN, seval, g16, g18, ofKR, Int.toNat_natCast])); refine zaa ?_; refine hK3 _ _ ?_; try clear hK3 K3
    refine wp_seq_k fun K3 hK3 => ?_; refine zac ?_; (repeat ((with_reducible refine zah ?_ ?_ ?_); (· simp [evb, pvb, rnb, kb, hN, dyb, sdb] <;> omega); (· kernel_rfl); try simp only [evb, pvb, rnb, kb, hN, seval]))
    refine zak (fun args w => Tryd.call63 args w) (by simp only [List.map_toArray, List.map_cons, List.map_nil, evb, kb, hN, seval]; exact hdDefault_c) ?_
    intro _ w0 hw
    replace hw := hw.symm
    subst hw
    refine zaa ?_; refine hK3 _ _ ?_; try clear hK3 K3
    refine wp_seq_k fun K3 hK3 => ?_; refine zac ?_; (repeat ((with_reducible refine zah ?_ ?_ ?_); (· simp [evb, pvb, rnb, kb, hN, dyb, sdb] <;> omega); (· kernel_rfl); try simp only [evb, pvb, rnb, kb, hN, seval])); refine zaa ?_; refine hK3 _ _ ?_; try clear hK3 K3
    refine wp_seq_k fun K3 hK3 => ?_
    refine wp_seq_k fun K4 hK4 => ?_; refine zac ?_; (repeat ((with_reducible refine zah ?_ ?_ ?_); (· simp [evb, pvb, rnb, kb, hN, dyb, sdb] <;> omega); (· kernel_rfl); try simp only [evb, pvb, rnb, kb, hN, seval])); refine zaa ?_; refine hK4 _ _ ?_; try clear hK4 K4
    refine wp_seq_k fun K4 hK4 => ?_
    refine wp_seq_k fun K5 hK5 => ?_; refine zac ?_; (repeat ((with_reducible refine zah ?_ ?_ ?_); (· simp [evb, pvb, rnb, kb, hN, g2, dyb, sdb] <;> omega); (· kernel_rfl); try simp only [evb, pvb, rnb, kb, hN, seval, g2])); refine zaa ?_; refine hK5 _ _ ?_; try clear hK5 K5
    refine wp_cond_false (by simp only [evb, pvb, rnb, kb, hN, seval]) ?_
    refine zac ?_; (repeat ((with_reducible refine zah ?_ ?_ ?_); (· simp [evb, pvb, rnb, kb, hN, g7, dyb, sdb] <;> omega); (· kernel_rfl); try simp only [evb, pvb, rnb, kb, hN, seval, g7]))
    refine wl_rdk (out := fun _ _ (x : Bs) v => v = .string ⟨x.toArray⟩) (fun args w => Tryd.call65 args w) VarintString_k (by simp only [List.map_toArray, List.map_cons, List.map_nil]; simp only [evb, pvb, rnb, kb, hN, seval, g7]) hS0 (fun h => hR (hG2 _ h)) hf2 (rVStr (by omega) _) ?_
    rintro _ w9 rfl hx9 hS9
    (repeat ((with_reducible refine zah ?_ ?_ ?_); (· simp [evb, pvb, rnb, kb, hN, dyb, sdb] <;> omega); (· kernel_rfl); try simp only [evb, pvb, rnb, kb, hN, seval])); refine zaa ?_; refine hK4 _ _ ?_; try clear hK4 K4
    refine zac ?_; (repeat ((with_reducible refine zah ?_ ?_ ?_); (· simp [evb, pvb, rnb, kb, hN, ofKR, dyb, sdb] <;> omega); (· kernel_rfl); try simp only [evb, pvb, rnb, kb, hN, seval, ofKR]))
    have hne : ¬ B = w.heap.size := by omega
    have hnp : ¬ B = p := by omega
    have hpB : ¬ p = B := by omega
    have hRB : ¬ w.heap.size = B := by omega
    refine zap (b := B) (o := i * 2) (n := 1) (v := .string ⟨y.key.toArray⟩) (by kernel_rfl) (by simp only [evb, pvb, rnb, kb, hN, seval]) (by simp only [evb, pvb, rnb, kb, hN, seval]) (hbB.chg hx9 hne) rfl (by intro y hy; simp only [Value.cells, List.mem_singleton] at hy; subst hy; rfl) (by omega) fun w10 hb10 hc10 => ?_
    refine zaa ?_; refine hK3 _ _ ?_; try clear hK3 K3
    have hS10 := hS9.chg hc10 hRB fun k hk _ e => hGB (e ▸ hk)
    refine wp_seq_k fun K3 hK3 => ?_; refine zac ?_; (repeat ((with_reducible refine zah ?_ ?_ ?_); (· simp [evb, pvb, rnb, kb, hN, g7, dyb, sdb] <;> omega); (· kernel_rfl); try simp only [evb, pvb, rnb, kb, hN, seval, g7]))
    refine wl_rdk (out := outNB) (fun args w => Tryd.call60 args w) VarintBytes_k (by simp only [List.map_toArray, List.map_cons, List.map_nil]; simp only [evb, pvb, rnb, kb, hN, seval, g7]) hS10 (fun h => hR (hG2 _ h)) (zaG hc10 (zaG hx9 hf2)) (rVBytes_obB (by omega) _) ?_
    intro vy w11 ovy hx11 hS11
    have oney := ovy.one
    (repeat ((with_reducible refine zah ?_ ?_ ?_); (· simp [evb, pvb, rnb, kb, hN, dyb, sdb] <;> omega); (· kernel_rfl); try simp only [evb, pvb, rnb, kb, hN, seval])); refine zaa ?_; refine hK3 _ _ ?_; try clear hK3 K3
    refine zac ?_; (repeat ((with_reducible refine zah ?_ ?_ ?_); (· simp [evb, pvb, rnb, kb, hN, ofKR, dyb, sdb] <;> omega); (· kernel_rfl); try simp only [evb, pvb, rnb, kb, hN, seval, ofKR]))
    refine zap (b := B) (o := i * 2 + 1) (n := 1) (v := vy) (by kernel_rfl) (by simp only [evb, pvb, rnb, kb, hN, seval]) (by simp only [evb, pvb, rnb, kb, hN, seval]) (hb10.chg hx11 hne) (by rw [oney.2]; rfl) (by rw [oney.2]; intro y hy; simp only [List.mem_singleton] at hy; subst hy; exact oney.1) (by rw [splice_length (by show i * 2 + 1 ≤ _; omega)]; omega) fun w12 hb12 hc12 => ?_
    rw [oney.2] at hb12
    have esp : zaM (zaM (dn ++ rs) (i * 2) (Value.string ⟨y.key.toArray⟩).cells.toList) (i * 2 + 1) (#[vy] : Array Value).toList = (dn ++ [.string ⟨y.key.toArray⟩, vy]) ++ rs.drop 2 := by
      rw [show (Value.string ⟨y.key.toArray⟩).cells.toList = [.string ⟨y.key.toArray⟩] from rfl]
      have := splice_splice (l := dn ++ rs) (i := i * 2) (xs := [.string ⟨y.key.toArray⟩]) (ys := [vy]) (by show i * 2 + 1 + 1 ≤ _; omega)
      refine this.trans ?_
      unfold zaM
      have e1 : (dn ++ rs).take (i * 2) = dn := by rw [← hdn]; exact List.take_left
      have e2 : (dn ++ rs).drop (i * 2 + 2) = rs.drop 2 := by rw [← hdn, List.drop_append]; simp
      rw [e1]
      show dn ++ [_, _] ++ List.drop (i * 2 + 2) (dn ++ rs) = _
      rw [e2]
    rw [esp] at hb12
    have c1 : Chg (fun k => k = B ∨ k = w.heap.size) w8 w12 := (((hx9.mono fun _ _ h => .inr h).trans (hc10.mono fun _ _ h => .inl h) fun _ _ h => h).trans (hx11.mono fun _ _ h => .inr h) fun _ _ h => h).trans (hc12.mono fun _ _ h => .inl h) fun _ _ h => h
    have hX : ∀ k, G2 k → ¬ (k = B ∨ k = w.heap.size) := fun k hk h => by
      rcases h with h | h
      · exact hGB (h ▸ hk)
      · exact hR (hG2 _ (h ▸ hk))
    refine zaa ?_; refine hK2 _ _ ?_; try clear hK2 K2
    refine zac ?_; (repeat ((with_reducible refine zah ?_ ?_ ?_); (· simp [evb, pvb, rnb, kb, hN, g18, dyb, sdb] <;> omega); (· kernel_rfl); try simp only [evb, pvb, rnb, kb, hN, seval, g18]))
    have hi1 : IntKind.i32.wrap ((i : Int) + 1) = ((i + 1 : Nat) : Int) := i32_sm (by omega)
    refine zaa ⟨⟨i + 1, hlt, by simp only [zaf, hN], by simp only [zab, hD], by simp only [evb, pvb, rnb, kb, hN, seval, g2], by simp only [evb, pvb, rnb, kb, hN, seval, g7], by simp only [evb, pvb, rnb, kb, hN, seval, g8], by simp only [evb, pvb, rnb, kb, hN, seval, g17], by simp only [evb, pvb, rnb, kb, hN, seval, g16], by simp only [evb, pvb, rnb, kb, hN, seval, hi1], zaG c1 hf2, .inr ⟨B, dn ++ [.string ⟨y.key.toArray⟩, vy], rs.drop 2, TB, rfl, hBR, hGB, hb12, by rw [List.length_append, hdn]; show i * 2 + 2 = (i + 1) * 2; omega, ?_, ?_⟩, ?_, ovk.chg c1 fun k hk _ => hX k hk, ovv.chg c1 fun k hk _ => hX k hk, hb.chg c1 (by omega), hc.trans c1 fun n hn h => by omega⟩, ?_⟩
    · simp only [List.length_append, List.length_drop, List.length_cons, List.length_nil] at hln ⊢; omega
    · rw [htake]
      refine LsL.append one_kh (hrow.stay one_kh (Stay.of c1 fun k hk _ => hX k hk)) (by rw [hdn, List.length_take]; omega) ⟨?_, trivial⟩
      exact ⟨vy, rfl, ovy.chg hc12 fun k hk _ e => hGB (e ▸ hk)⟩
    · exact hS11.chg hc12 hRB fun k hk _ e => hGB (e ▸ hk)
    · simp only [evb, pvb, rnb, kb, hN, seval, g18]
      simp only [intOf, hi1]
      omega
  · have d1 : decide ((i : Int) < (x.hs.length : Int)) = false := decide_eq_false (by omega)
    refine wp_cond_false (by simp only [evb, pvb, rnb, kb, hN, seval, d1]) ?_
    refine wp_exit ?_
    simp only [Exit.then, Exit.inBlock, if_pos]
    refine hK1 _ _ ?_; try clear hK1 K1
    obtain rfl : i = x.hs.length := by omega
    refine wp_seq_k fun K1 hK1 => ?_; refine zac ?_; (repeat ((with_reducible refine zah ?_ ?_ ?_); (· simp [evb, pvb, rnb, kb, hN, g16, dyb, sdb] <;> omega); (· kernel_rfl); try simp only [evb, pvb, rnb, kb, hN, seval, g16])); refine zaa ?_; refine hK1 _ _ ?_; try clear hK1 K1
    refine zac ?_; (repeat ((with_reducible refine zah ?_ ?_ ?_); (· simp [evb, pvb, rnb, kb, hN, g8, ofKR, dyb, sdb] <;> omega); (· kernel_rfl); try simp only [evb, pvb, rnb, kb, hN, seval, g8, ofKR]))
    refine zap (b := p) (o := 7) (n := 1) (v := .slice oh x.hs.length ch) (by kernel_rfl) (by simp only [evb, pvb, rnb, kb, hN, seval]) (by simp only [evb, pvb, rnb, kb, hN, seval]) hb rfl (by intro y hy; simp only [Value.cells, List.mem_singleton] at hy; subst hy; rfl) (by show 7 + 1 ≤ 8; omega) fun w9 hb9 hc9 => ?_
    refine zaa ?_; refine hK _ _ ?_
    have hb9' : Blk w9 p (krV x vk vv (.slice oh x.hs.length ch)) T := hb9
    have hX : ∀ k, G2 k → ¬ k = p := fun k hk e => hGp2 (e ▸ hk)
    have hS9 := hS.chg hc9 hpR fun k hk _ => hX k hk
    refine wp_seq_k fun K hK => ?_; refine zac ?_; (repeat ((with_reducible refine zah ?_ ?_ ?_); (· simp [evb, pvb, rnb, kb, hN, g7, dyb, sdb] <;> omega); (· kernel_rfl); try simp only [evb, pvb, rnb, kb, hN, seval, g7]))
    refine zak (fun args w => Tryd.call53 args w) (by simp only [List.map_toArray, List.map_cons, List.map_nil, evb, kb, hN, seval, g7]; exact Complete_k hS9) ?_
    intro _ w0 hw
    obtain ⟨hw, rfl⟩ := hw
    replace hw := hw.symm
    subst hw
    (repeat ((with_reducible refine zah ?_ ?_ ?_); (· simp [evb, pvb, rnb, kb, hN, dyb, sdb] <;> omega); (· kernel_rfl); try simp only [evb, pvb, rnb, kb, hN, seval])); refine zaa ?_; refine hK _ _ ?_; clear hK K; refine wp_ret ⟨by simp [zab, hD], ?_⟩; simp only [evb, kb, hN, seval]
    have up : ∀ k, k < w9.heap.size → G2 k → (G k ∨ w.heap.size < k) := fun k _ hk => by
      have := hG2 k hk
      rw [hG'] at this
      rcases this with h | h
      · exact .inl h.1
      · exact .inr h
    refine ⟨by first | rfl | trivial, ⟨_, hb9', vk, vv, .slice oh x.hs.length ch, rfl, (ovk.chg hc9 fun k hk _ => hX k hk).mono up, (ovv.chg hc9 fun k hk _ => hX k hk).mono up, ⟨oh, ch, rfl, hch, ?_⟩, z1, z2, z3, z4, z5⟩, (hc02.mono fun _ _ h => h.elim).trans (hc.trans hc9 fun _ _ h => .inl h) fun n hn h => by omega⟩
    rcases hH with h | ⟨B, dn, rs, TB, h1, h2, h3, h4, h5, h6, h7⟩
    · exact .inl (List.eq_nil_of_length_eq_zero h)
    · refine .inr ⟨B, 0, dn ++ rs, TB, h1, .inr (by omega), (h4.chg hc9 (by omega)).r, ?_⟩
      rw [List.take_length] at h7
      have h8 := (h7.stay one_kh (Stay.of hc9 fun k hk _ => hX k hk)).stay one_kh (Stay.sub (w := w9) up)
      have h9 := LsL.append one_kh (m := []) (vs := rs) h8 (by omega) trivial
      rw [List.append_nil] at h9
      exact h9
theorem recReadFrom_c {w : World} {G : Nat → Prop} {x : Kr} {p : Nat} {T : TypeId} {oa : Option Addr} {cap : Nat} (hbt : zam w G oa (rdB x)) (hcap : (rdB x).length ≤ cap) (q : KrR x) (hL : KrL x) (hd : IntKind.i32.wrap x.d64 = x.d32)
    (hp : Blk w p (krV ⟨0, 0, 0, 0, 0, none, none, []⟩ (.slice none 0 0) (.slice none 0 0) (.slice none 0 0)) T) (hGp : ¬ G p) :
    zan Tryd.prog 22 #[.pointer (some ⟨p, 0, none⟩), .slice oa (rdB x).length cap] w fun v w' => v = .nilIface ∧ (∃ vs, Blk w' p vs T ∧ KrC w' (fun g => G g ∨ w.heap.size < g) x vs) ∧ Chg (fun k => k = p) w w' := by
  refine zaj Tryd.func22 rfl rfl Tryd.ntmps22 (by simp) ?_
  intro a hN hD hargs
  have h0 : get a 0 = .pointer (some ⟨p, 0, none⟩) := hargs 0 _ rfl
  have h1 : get a 1 = .slice oa (rdB x).length cap := hargs 1 _ rfl
  refine wp_seq_k fun K hK => ?_; refine zac ?_; (repeat ((with_reducible refine zah ?_ ?_ ?_); (· simp [evb, pvb, rnb, kb, hN, dyb, sdb] <;> omega); (· kernel_rfl); try simp only [evb, pvb, rnb, kb, hN, seval])); refine zaa ?_; refine hK _ _ ?_; clear hK K
  refine wp_seq_k fun K hK => ?_; refine zac ?_; (repeat ((with_reducible refine zah ?_ ?_ ?_); (· simp [evb, pvb, rnb, kb, hN, h0, h1, dyb, sdb] <;> omega); (· kernel_rfl); try simp only [evb, pvb, rnb, kb, hN, seval, h0, h1]))
  refine zak (fun args w => Tryd.call40 args w) (by simp only [List.map_toArray, List.map_cons, List.map_nil, evb, kb, hN, seval]; exact recRead_c hbt hcap q hL hd hp hGp) ?_
  rintro _ w2 ⟨rfl, h2, h3⟩
  (repeat ((with_reducible refine zah ?_ ?_ ?_); (· simp [evb, pvb, rnb, kb, hN, dyb, sdb] <;> omega); (· kernel_rfl); try simp only [evb, pvb, rnb, kb, hN, seval])); refine zaa ?_; refine hK _ _ ?_; clear hK K; refine wp_ret ⟨by simp [zab, hD], ?_⟩; simp only [evb, kb, hN, seval]
  exact ⟨by first | rfl | trivial, h2, h3⟩
end Go.Proofs.YtojpodeljpfgaaaDoor
namespace Go.Proofs.YtojpodeljpfgaaaDoor
set_option linter.all false
open Go.RowKit
set_option maxRecDepth 10000
set_option maxHeartbeats 4000000
def hdOf (h : Kh) : Hd := ⟨h.key, zaP h.val⟩
def backOf (x : Kr) : Rc := ⟨x.len, x.attr, x.d64, x.off, zaP x.key, zaP x.val, x.hs.map hdOf⟩
theorem octOf_len (o : Option Bs) : (zaP o).data.length = obL o := by cases o <;> rfl
theorem rdB_len {x : Kr} (h : KrL x) : (rdB x).length ≤ 2147483000 := by
  unfold rdB
  have h0 := zaC x.len
  have h1 := zaC x.d64
  have h2 := zaC x.off
  have h3 := obB_len x.key
  have h4 := obB_len x.val
  have h5 := zaC x.hs.length
  have h6 := flat_kh x.hs h.hk
  have := h.key
  have := h.val
  have := h.hs
  simp only [List.length_append, zas]; omega
theorem tellRecord_c {w : World} {G : Nat → Prop} {x : Kr} {oa : Option Addr} {cap : Nat} (hbt : zam w G oa (rdB x)) (q : KrR x) (hL : KrL x) (hd : IntKind.i32.wrap x.d64 = x.d32) :
    zan Tryd.prog 13 #[.slice oa (rdB x).length cap] w fun v w' => ∃ vs, v = .tuple #[zax vs, .bool true] ∧ RcC w' (fun g => w.heap.size ≤ g) (backOf x) vs ∧ Chg (fun _ => False) w w' := by
  refine callsR_ofCT Tryd.func13 rfl rfl (by kernel_rfl) Tryd.ntmps13 (by simp) ?_
  intro a hN hD hargs
  have h0 : get a 0 = .slice oa (rdB x).length cap := hargs 0 _ rfl
  have hlen := rdB_len hL
  have hLk := hL.key
  have hLv := hL.val
  have hLh := hL.hs
  refine wp_seq_k fun K hK => ?_; refine zac ?_
  refine zaH (z := zax [.int .i32 0, .int .i8 0, .int .i64 0, .int .i32 0, .bool false, .slice none 0 0, .bool false, .slice none 0 0, .slice none 0 0]) (fun w => Tryd.zeroValue34 w) fun w1 hc1 hb1 hs1 => ?_
  (repeat ((with_reducible refine zah ?_ ?_ ?_); (· simp [evb, pvb, rnb, kb, hN, dyb, sdb] <;> omega); (· kernel_rfl); try simp only [evb, pvb, rnb, kb, hN, seval])); refine zaa ?_; refine hK _ _ ?_; clear hK K
  refine wp_seq_k fun K hK => ?_; refine zac ?_
  refine zaH (z := zax (krV ⟨0, 0, 0, 0, 0, none, none, []⟩ (.slice none 0 0) (.slice none 0 0) (.slice none 0 0))) (fun w => Tryd.zeroValue53 w) fun w2 hc2 hb2 hs2 => ?_
  refine zaa ?_; refine hK _ _ ?_; clear hK K
  have hc02 := hc1.trans hc2 fun _ _ h => h
  refine wp_seq_k fun K hK => ?_; refine wp_seq_k fun K1 hK1 => ?_; refine zac ?_; (repeat ((with_reducible refine zah ?_ ?_ ?_); (· simp [evb, pvb, rnb, kb, hN, h0, dyb, sdb] <;> omega); (· kernel_rfl); try simp only [evb, pvb, rnb, kb, hN, seval, h0]))
  refine zak (fun args w => Tryd.call19 args w) (by simp only [List.map_toArray, List.map_cons, List.map_nil, evb, kb, hN, seval, h0]; exact own_c (hbt.chg hc02 fun _ _ _ h => h) (by unfold LIM; omega)) ?_
  rintro v3 w3 ⟨r1, hc3⟩
  obtain ⟨o3, c3, rfl, f1, f2⟩ := own_at r1
  have hs3 := hc3.size
  refine zak (fun args w => Tryd.call22 args w) (by simp only [List.map_toArray, List.map_cons, List.map_nil, evb, kb, hN, seval]; exact recReadFrom_c (p := w1.heap.size) f2 f1 q hL hd (hb2.chg hc3 fun h => h) (by omega)) ?_
  rintro _ w4 ⟨rfl, ⟨vs, hb4, vk, vv, vh, rfl, ovk, ovv, ovh, _⟩, hc4⟩
  (repeat ((with_reducible refine zah ?_ ?_ ?_); (· simp [evb, pvb, rnb, kb, hN, dyb, sdb] <;> omega); (· kernel_rfl); try simp only [evb, pvb, rnb, kb, hN, seval]))
  refine wl_neqNil0 (by kernel_rfl) (by simp only [evb, pvb, rnb, kb, hN, seval]) ?_
  (repeat ((with_reducible refine zah ?_ ?_ ?_); (· simp [evb, pvb, rnb, kb, hN, dyb, sdb] <;> omega); (· kernel_rfl); try simp only [evb, pvb, rnb, kb, hN, seval])); refine zaa ?_; refine hK1 _ _ ?_; try clear hK1 K1
  refine wp_cond_false (by simp [evb, kb, hN, sdb]) ?_
  refine wp_skip (hK _ _ ?_)
  clear hK K
  have hc03 := hc02.trans hc3 fun _ _ h => h
  have hc04 : Chg (fun _ => False) w w4 := hc03.trans hc4 fun n hn h => by omega
  have hs4 := hc4.size
  have hb14 : Blk w4 w.heap.size _ _ := ((hb1.chg hc2 fun h => h).chg hc3 fun h => h).chg hc4 (by omega)
  refine zaw fun a1 ha => ?_
  have hN' : a1.tmps.size = 48 := by rw [ha]; simp only [zaf]; exact hN
  have hD' : a1.defers = [] := by rw [ha]; simp only [zab]; exact hD
  have g2 : get a1 2 = .pointer (some ⟨w.heap.size, 0, none⟩) := by rw [ha]; simp only [evb, pvb, rnb, kb, hN, seval]
  have g4 : get a1 4 = .pointer (some ⟨w1.heap.size, 0, none⟩) := by rw [ha]; simp only [evb, pvb, rnb, kb, hN, seval]
  clear ha hN hD h0 hargs
  have hN := hN'
  have hD := hD'
  clear hN' hD'
  generalize hp : w1.heap.size = p at *
  have hlp : p < w4.heap.size := hb4.lt
  have lk := hb4.ld (i := 5) (v := vk) rfl
  have lv := hb4.ld (i := 6) (v := vv) rfl
  have e0 := hb4.ld (i := 0) (v := .int .i32 x.len) rfl
  have e1 := hb4.ld (i := 1) (v := .int .i8 x.attr) rfl
  have e3 := hb4.ld (i := 3) (v := .int .i64 x.d64) rfl
  have e4 := hb4.ld (i := 4) (v := .int .i32 x.off) rfl
  refine wp_seq_k fun K hK => ?_
  refine wb_any zaz ?_
  have hd1 : Chg (fun _ => False) w4 w4.drew := Chg.drew _ _
  refine wb_p (i := 0) (by kernel_rfl) rfl (by simp [evb, pvb, rnb, kb, hN, seval, g4, ofKR, dyb, sdb] <;> omega) (by kernel_rfl) hd1 ?_; try simp only [evb, pvb, rnb, kb, hN, seval, g4, ofKR]
  refine wb_p (i := 1) (by kernel_rfl) rfl (by simp [evb, pvb, rnb, kb, hN, seval, e0, dyb, sdb] <;> omega) (by kernel_rfl) hd1 ?_; try simp only [evb, pvb, rnb, kb, hN, seval, e0]
  refine wb_p (i := 2) (by kernel_rfl) rfl (by simp [evb, pvb, rnb, kb, hN, seval, g4, ofKR, dyb, sdb] <;> omega) (by kernel_rfl) hd1 ?_; try simp only [evb, pvb, rnb, kb, hN, seval, g4, ofKR]
  refine wb_p (i := 3) (by kernel_rfl) rfl (by simp [evb, pvb, rnb, kb, hN, seval, e1, dyb, sdb] <;> omega) (by kernel_rfl) hd1 ?_; try simp only [evb, pvb, rnb, kb, hN, seval, e1]
  refine wb_p (i := 4) (by kernel_rfl) rfl (by simp [evb, pvb, rnb, kb, hN, seval, g4, ofKR, dyb, sdb] <;> omega) (by kernel_rfl) hd1 ?_; try simp only [evb, pvb, rnb, kb, hN, seval, g4, ofKR]
  refine wb_p (i := 5) (by kernel_rfl) rfl (by simp [evb, pvb, rnb, kb, hN, seval, e3, dyb, sdb] <;> omega) (by kernel_rfl) hd1 ?_; try simp only [evb, pvb, rnb, kb, hN, seval, e3]
  refine wb_p (i := 6) (by kernel_rfl) rfl (by simp [evb, pvb, rnb, kb, hN, seval, g4, ofKR, dyb, sdb] <;> omega) (by kernel_rfl) hd1 ?_; try simp only [evb, pvb, rnb, kb, hN, seval, g4, ofKR]
  refine wb_p (i := 7) (by kernel_rfl) rfl (by simp [evb, pvb, rnb, kb, hN, seval, e4, dyb, sdb] <;> omega) (by kernel_rfl) hd1 ?_; try simp only [evb, pvb, rnb, kb, hN, seval, e4]
  refine wb_p (i := 8) (by kernel_rfl) rfl (by simp [evb, pvb, rnb, kb, hN, seval, g4, ofKR, dyb, sdb] <;> omega) (by kernel_rfl) hd1 ?_; try simp only [evb, pvb, rnb, kb, hN, seval, g4, ofKR]
  refine wb_p (i := 9) (by kernel_rfl) rfl (by simp [evb, pvb, rnb, kb, hN, seval, lk, dyb, sdb] <;> omega) (by kernel_rfl) hd1 ?_; try simp only [evb, pvb, rnb, kb, hN, seval, lk]
  refine wb_p (i := 11) (by kernel_rfl) rfl (by simp [evb, pvb, rnb, kb, hN, seval, g4, ofKR, dyb, sdb] <;> omega) (by kernel_rfl) hd1 ?_; try simp only [evb, pvb, rnb, kb, hN, seval, g4, ofKR]
  refine wb_p (i := 12) (by kernel_rfl) rfl (by simp [evb, pvb, rnb, kb, hN, seval, lv, dyb, sdb] <;> omega) (by kernel_rfl) hd1 ?_; try simp only [evb, pvb, rnb, kb, hN, seval, lv]
  have zz9 : Value := .bool false
  refine wb_fin (fuel' := 1) (l' := #[true, true, true, true, true, true, true, true, true, true, true, true, true, true, true, true, false]) (fun a' w' => ∃ (b : Nat) (vs : List Value) (T : TypeId), a'.tmps.size = 48 ∧ a'.defers = [] ∧ get a' 2 = .pointer (some ⟨w.heap.size, 0, none⟩) ∧ get a' 4 = .pointer (some ⟨p, 0, none⟩) ∧ get a' 5 = .pointer (some ⟨b, 0, none⟩) ∧ w4.heap.size ≤ b ∧
    get a' 27 = zax vs ∧ (∃ k1 k2 v1 v2, vs = [.int .i32 x.len, .int .i8 x.attr, .int .i64 x.d64, .int .i32 x.off, .bool (zaP x.key).null, .slice k1 (zaP x.key).data.length k2, .bool (zaP x.val).null, .slice v1 (zaP x.val).data.length v2, .slice none 0 0] ∧
      ((zaP x.key).data.length ≤ k2 ∧ zam w' (fun g => w4.heap.size ≤ g ∧ g ≠ b) k1 (zaP x.key).data) ∧ ((zaP x.val).data.length ≤ v2 ∧ zam w' (fun g => w4.heap.size ≤ g ∧ g ≠ b) v1 (zaP x.val).data)) ∧
    Blk w' b [.int .i32 0, .int .i8 0, .int .i64 0, .int .i32 0, .bool false, .slice none 0 0, .bool false, .slice none 0 0, .slice none 0 0] T ∧ Chg (fun _ => False) w4 w') ?_ fun fin3 => ?_
  rotate_left
  · 
    refine wb_fin (fuel' := 3) (l' := #[true, true, true, true, true, true, true, true, true, true, true, true, true, false, false, true, false]) (fun a' w' => ∃ (b : Nat) (k1 : Option Addr) (k2 : Nat) (T : TypeId), a'.tmps.size = 48 ∧ a'.defers = [] ∧ get a' 2 = .pointer (some ⟨w.heap.size, 0, none⟩) ∧ get a' 4 = .pointer (some ⟨p, 0, none⟩) ∧ get a' 5 = .pointer (some ⟨b, 0, none⟩) ∧ w4.heap.size ≤ b ∧
      get a' 14 = .int .i32 x.len ∧ get a' 16 = .int .i8 x.attr ∧ get a' 18 = .int .i64 x.d64 ∧ get a' 20 = .int .i32 x.off ∧ get a' 25 = vv ∧ get a' 23 = zax [.bool (zaP x.key).null, .slice k1 (zaP x.key).data.length k2] ∧
      ((zaP x.key).data.length ≤ k2 ∧ zam w' (fun g => w4.heap.size ≤ g ∧ g ≠ b) k1 (zaP x.key).data) ∧
      Blk w' b [.int .i32 0, .int .i8 0, .int .i64 0, .int .i32 0, .bool false, .slice none 0 0, .bool false, .slice none 0 0, .slice none 0 0] T ∧ Chg (fun _ => False) w4 w') ?_ fun fin1 => ?_
    · rintro a2 w5 ⟨b, k1, k2, T, hN, hD, g2, g4, g5, hwb, g14, g16, g18, g20, g25, g23, ⟨m1, m2⟩, hbb, hc5⟩
      have hbl := hbb.lt
      refine wb_one (i := 13) (by kernel_rfl) rfl ?_
      refine zak (fun args w => Tryd.call23 args w) (by simp only [List.map_toArray, List.map_cons, List.map_nil, evb, kb, hN, seval, g25]; exact octets_c (ovv.chg hc5 fun _ _ _ h => h) (by rw [octOf_len]; unfold LIM; omega)) ?_
      rintro _ w6 ⟨vs6, rfl, ⟨v1, v2, rfl, n1, n2⟩, hc6⟩
      have hc56 := hc5.trans hc6 fun _ _ h => h
      have hs5 := hc5.size
      refine zaa ⟨hc56, ?_⟩
      refine wb_build (i := 14) (l := [.int .i32 x.len, .int .i8 x.attr, .int .i64 x.d64, .int .i32 x.off, .bool (zaP x.key).null, .slice k1 (zaP x.key).data.length k2, .bool (zaP x.val).null, .slice v1 (zaP x.val).data.length v2, .slice none 0 0]) (by kernel_rfl) rfl (by simp only [List.map_toArray, List.map_cons, List.map_nil, evb, kb, hN, seval, g14, g16, g18, g20, g23]; kernel_rfl) hc56 ?_
      refine wb_list (l' := #[true, true, true, true, true, true, true, true, true, true, true, true, true, true, true, true, false]) (by kernel_rfl) ?_
      exact fin3 _ _ ⟨b, _, T, by simp only [zaf, hN], by simp only [zab, hD], by simp only [evb, pvb, rnb, kb, hN, seval, g2], by simp only [evb, pvb, rnb, kb, hN, seval, g4], by simp only [evb, pvb, rnb, kb, hN, seval, g5], hwb, by simp only [evb, pvb, rnb, kb, hN, seval], ⟨k1, k2, v1, v2, rfl, ⟨m1, m2.chg hc6 fun _ _ _ h => h⟩, n1, n2.mono fun g hg _ => ⟨by omega, by omega⟩⟩, hbb.chg hc6 fun h => h, hc56⟩
    · refine wb_two (i := 10) (j := 15) (by kernel_rfl) rfl rfl ?_ ?_
      · refine zak (fun args w => Tryd.call23 args w) (by simp only [List.map_toArray, List.map_cons, List.map_nil, evb, kb, hN, seval]; exact octets_c (ovk.chg hd1 fun _ _ _ h => h) (by rw [octOf_len]; unfold LIM; omega)) ?_
        rintro _ w5 ⟨vs5, rfl, ⟨k1, k2, rfl, m1, m2⟩, hc5⟩
        have hc45 := hd1.trans hc5 fun _ _ h => h
        have hs45 := hc45.size
        refine zaa ⟨hc45, ?_⟩
        refine wb_two (i := 13) (j := 15) (by kernel_rfl) rfl rfl ?_ ?_
        · refine zak (fun args w => Tryd.call23 args w) (by simp only [List.map_toArray, List.map_cons, List.map_nil, evb, kb, hN, seval]; exact octets_c (ovv.chg hc45 fun _ _ _ h => h) (by rw [octOf_len]; unfold LIM; omega)) ?_
          rintro _ w6 ⟨vs6, rfl, ⟨v1, v2, rfl, n1, n2⟩, hc6⟩
          have hc46 := hc45.trans hc6 fun _ _ h => h
          have hs46 := hc46.size
          have hs56 := hc6.size
          refine zaa ⟨hc46, ?_⟩
          refine wb_build (i := 14) (l := [.int .i32 x.len, .int .i8 x.attr, .int .i64 x.d64, .int .i32 x.off, .bool (zaP x.key).null, .slice k1 (zaP x.key).data.length k2, .bool (zaP x.val).null, .slice v1 (zaP x.val).data.length v2, .slice none 0 0]) (by kernel_rfl) rfl (by simp only [List.map_toArray, List.map_cons, List.map_nil, evb, kb, hN, seval]; kernel_rfl) hc46 ?_
          refine wb_one (i := 15) (by kernel_rfl) rfl ?_
          refine zaH (z := zax [.int .i32 0, .int .i8 0, .int .i64 0, .int .i32 0, .bool false, .slice none 0 0, .bool false, .slice none 0 0, .slice none 0 0]) (fun w => Tryd.zeroValue34 w) fun w7 hc7 hb7 hs7 => ?_
          have hc47 := hc46.trans hc7 fun _ _ h => h
          refine zaa ⟨hc47, ?_⟩
          refine wb_list (l' := #[true, true, true, true, true, true, true, true, true, true, true, true, true, true, true, true, false]) (by kernel_rfl) ?_
          exact fin3 _ _ ⟨w6.heap.size, _, _, by simp only [zaf, hN], by simp only [zab, hD], by simp only [evb, pvb, rnb, kb, hN, seval, g2], by simp only [evb, pvb, rnb, kb, hN, seval, g4], by simp only [evb, pvb, rnb, kb, hN, seval], hs46, by simp only [evb, pvb, rnb, kb, hN, seval], ⟨k1, k2, v1, v2, rfl, ⟨m1, ((m2.chg hc6 fun _ _ _ h => h).mono fun g hg hl => ⟨by change w4.heap.size ≤ g at hg; omega, by omega⟩).chg hc7 fun _ _ _ h => h⟩, n1, (n2.mono fun g hg hl => ⟨by omega, by omega⟩).chg hc7 fun _ _ _ h => h⟩, hb7, hc47⟩
        · refine zaH (z := zax [.int .i32 0, .int .i8 0, .int .i64 0, .int .i32 0, .bool false, .slice none 0 0, .bool false, .slice none 0 0, .slice none 0 0]) (fun w => Tryd.zeroValue34 w) fun w7 hc7 hb7 hs7 => ?_
          have hc47 := hc45.trans hc7 fun _ _ h => h
          refine zaa ⟨hc47, ?_⟩
          refine wb_list (l' := #[true, true, true, true, true, true, true, true, true, true, true, true, true, false, false, true, false]) (by kernel_rfl) ?_
          exact fin1 _ _ ⟨w5.heap.size, k1, k2, _, by simp only [zaf, hN], by simp only [zab, hD], by simp only [evb, pvb, rnb, kb, hN, seval, g2], by simp only [evb, pvb, rnb, kb, hN, seval, g4], by simp only [evb, pvb, rnb, kb, hN, seval], hs45, by simp only [evb, pvb, rnb, kb, hN, seval], by simp only [evb, pvb, rnb, kb, hN, seval], by simp only [evb, pvb, rnb, kb, hN, seval], by simp only [evb, pvb, rnb, kb, hN, seval], by simp only [evb, pvb, rnb, kb, hN, seval], by simp only [evb, pvb, rnb, kb, hN, seval], ⟨m1, (m2.mono fun g hg hl => ⟨by change w4.heap.size ≤ g at hg; omega, by omega⟩).chg hc7 fun _ _ _ h => h⟩, hb7, hc47⟩
      · refine zaH (z := zax [.int .i32 0, .int .i8 0, .int .i64 0, .int .i32 0, .bool false, .slice none 0 0, .bool false, .slice none 0 0, .slice none 0 0]) (fun w => Tryd.zeroValue34 w) fun w7 hc7 hb7 hs7 => ?_
        have hc47 := hd1.trans hc7 fun _ _ h => h
        refine zaa ⟨hc47, ?_⟩
        refine wb_one (i := 10) (by kernel_rfl) rfl ?_
        refine zak (fun args w => Tryd.call23 args w) (by simp only [List.map_toArray, List.map_cons, List.map_nil, evb, kb, hN, seval]; exact octets_c (ovk.chg hc47 fun _ _ _ h => h) (by rw [octOf_len]; unfold LIM; omega)) ?_
        rintro _ w5 ⟨vs5, rfl, ⟨k1, k2, rfl, m1, m2⟩, hc5⟩
        have hc45 := hc47.trans hc5 fun _ _ h => h
        refine zaa ⟨hc45, ?_⟩
        refine wb_list (l' := #[true, true, true, true, true, true, true, true, true, true, true, true, true, false, false, true, false]) (by kernel_rfl) ?_
        have hsd : w4.drew.heap.size = w4.heap.size := rfl
        exact fin1 _ _ ⟨w4.heap.size, k1, k2, _, by simp only [zaf, hN], by simp only [zab, hD], by simp only [evb, pvb, rnb, kb, hN, seval, g2], by simp only [evb, pvb, rnb, kb, hN, seval, g4], by simp only [evb, pvb, rnb, kb, hN, seval]; rfl, Nat.le_refl _, by simp only [evb, pvb, rnb, kb, hN, seval], by simp only [evb, pvb, rnb, kb, hN, seval], by simp only [evb, pvb, rnb, kb, hN, seval], by simp only [evb, pvb, rnb, kb, hN, seval], by simp only [evb, pvb, rnb, kb, hN, seval], by simp only [evb, pvb, rnb, kb, hN, seval], ⟨m1, m2.mono fun g hg hl => ⟨by omega, by omega⟩⟩, hb7.chg hc5 fun h => h, hc45⟩
  clear hN hD g2 g4 lk lv e0 e1 e3 e4
  rintro a3 w5 ⟨b, vs, T, hN, hD, g2, g4, g5, hwb, g27, ⟨k1, k2, v1, v2, hvs, ⟨m1, m2⟩, n1, n2⟩, hbb, hc5⟩
  have hbl := hbb.lt
  refine wb_one (i := 16) (by kernel_rfl) rfl ?_
  have hcv : ∀ u ∈ vs, u.oneCell' = true := by
    rw [hvs]
    intro u hu
    simp only [List.mem_cons, List.not_mem_nil, or_false] at hu
    rcases hu with rfl | rfl | rfl | rfl | rfl | rfl | rfl | rfl | rfl <;> rfl
  refine zaA (b := b) (n := 9) (l' := vs) (by kernel_rfl) (by simp only [evb, pvb, rnb, kb, hN, seval, g5]) (by simp only [evb, pvb, rnb, kb, hN, seval, g27]) hbb (by rw [hvs]; rfl) hcv rfl fun w6 hb6 hc6 => ?_
  have hc46 : Chg (fun _ => False) w4 w6 := hc5.trans hc6 fun n hn h => by omega
  refine zaa ⟨hc46, ?_⟩
  refine wb_nil (by kernel_rfl) (hK _ _ ?_)
  clear hK K
  replace n2 := n2.chg hc6 fun g hg _ e => hg.2 e
  replace m2 := m2.chg hc6 fun g hg _ e => hg.2 e
  have hs46 := hc46.size
  have hb46 := hb4.chg hc46 fun h => h
  have ovh6 := (ovh.stay one_kh (Stay.sub (G' := fun g => g < w4.heap.size) fun k hk _ => hk)).stay one_kh (Stay.of hc46 fun _ _ _ h => h)
  obtain ⟨oh, ch, hvh, hch⟩ := ovh6.sl
  have l7 := hb46.ld (i := 7) (v := .slice oh x.hs.length ch) (by rw [← hvh]; rfl)
  have hbl6 := hb6.lt
  refine zaw fun a4 ha => ?_
  have hN' : a4.tmps.size = 48 := by rw [ha]; simp only [zaf]; exact hN
  have hD' : a4.defers = [] := by rw [ha]; simp only [zab]; exact hD
  have g2' : get a4 2 = .pointer (some ⟨w.heap.size, 0, none⟩) := by rw [ha]; simp only [evb, pvb, rnb, kb, hN, seval, g2]
  have g4' : get a4 4 = .pointer (some ⟨p, 0, none⟩) := by rw [ha]; simp only [evb, pvb, rnb, kb, hN, seval, g4]
  have g5' : get a4 5 = .pointer (some ⟨b, 0, none⟩) := by rw [ha]; simp only [evb, pvb, rnb, kb, hN, seval, g5]
  clear ha hN hD g2 g4 g5 g27
  have hN := hN'
  have hD := hD'
  have g2 := g2'
  have g4 := g4'
  have g5 := g5'
  clear hN' hD' g2' g4' g5'
  have hcl : ∀ u : Value, (∃ oa n c, u = .slice oa n c) → zaM vs 8 u.cells.toList = [.int .i32 x.len, .int .i8 x.attr, .int .i64 x.d64, .int .i32 x.off, .bool (zaP x.key).null, .slice k1 (zaP x.key).data.length k2, .bool (zaP x.val).null, .slice v1 (zaP x.val).data.length v2, u] := by
    rintro _ ⟨oa, n, c, rfl⟩; rw [hvs]; rfl
  obtain ⟨M, hM⟩ : ∃ M, M = w6.heap.size := ⟨_, rfl⟩
  refine wp_seq_k fun K hK => ?_; refine wp_seq_k fun K1 hK1 => ?_; refine zac ?_; (repeat ((with_reducible refine zah ?_ ?_ ?_); (· simp [evb, pvb, rnb, kb, hN, g4, ofKR, l7, dyb, sdb] <;> omega); (· kernel_rfl); try simp only [evb, pvb, rnb, kb, hN, seval, g4, ofKR, l7])); refine zaa ?_; refine hK1 _ _ ?_; try clear hK1 K1
  refine wp_range (n := x.hs.length) (fun i a' w' => ∃ (u : Value) (Gs : Nat → Prop), a'.tmps.size = 48 ∧ a'.defers = [] ∧ get a' 29 = .slice oh x.hs.length ch ∧ get a' 2 = .pointer (some ⟨w.heap.size, 0, none⟩) ∧ get a' 5 = .pointer (some ⟨b, 0, none⟩) ∧
      Blk w' b (zaM vs 8 u.cells.toList) T ∧ GrI 3 HdC 55 w' M Gs ((x.hs.take i).map hdOf) u ∧ (∀ k, Gs k → M ≤ k ∧ k < w'.heap.size ∧ u.ownBlock ≠ some k) ∧ Chg (fun g => g = b ∨ M ≤ g) w6 w') 48 (by omega)
    (by simp only [evb, kb, hN, seval]; try rfl) (by simp only [evb, kb, hN, seval]) ⟨.slice none 0 0, fun _ => False, by simp only [zaf, hN], by simp only [zab, hD], by simp only [evb, pvb, rnb, kb, hN, seval], by simp only [evb, pvb, rnb, kb, hN, seval, g2], by simp only [evb, pvb, rnb, kb, hN, seval, g5], by rw [hcl _ ⟨_, _, _, rfl⟩]; rw [hvs] at hb6; exact hb6, GrI.nil _ _ _ _, fun _ h => h.elim, Chg.refl _ _⟩ ?_ ?_ (by decide) ?_ ?_
  · rintro i a w ⟨_, _, h, _⟩; exact h
  · rintro i a w t v ht ⟨u, Gs, k1, k2, k3, k4, k5, k6⟩
    rcases ht with rfl | rfl | rfl <;> exact ⟨u, Gs, by rw [zaf]; exact k1, by rw [zab]; exact k2, by rw [zaq (by decide)]; exact k3, by rw [zaq (by decide)]; exact k4, by rw [zaq (by decide)]; exact k5, k6⟩
  · clear hN hD g2 g4 g5 hb6
    rintro i a1 w8 hi ⟨u, Gs, hN, hD, g29, g2, g5, hbp, hgr, hGs, hc8⟩ g30 g31
    have hx : x.hs[i]? = some x.hs[i] := by simp [hi]
    generalize x.hs[i] = y at hx
    obtain ⟨oa', cap', e1, _, hrow⟩ := ovh6
    rw [hvh] at e1
    obtain ⟨rfl, rfl⟩ : oh = oa' ∧ ch = cap' := by simpa using e1
    rcases hrow with e | ⟨b', o, cs, T', rfl, hGb, hb, htl⟩
    · rw [e] at hi; simp at hi
    obtain ⟨hcx, hlx⟩ := htl.get one_kh hx
    have hc48 : Chg (fun _ => False) w4 w8 := hc46.trans hc8 fun n hn hk => by omega
    have hbl' : b' < w4.heap.size := hGb
    have hb2 : Rbk w8 b' cs T' := hb.chg hc8 (by omega)
    rw [List.length_drop] at hlx
    rw [List.drop_drop] at hcx
    have hlen := one_kh.len hcx
    have hcl' := one_kh.cell hcx
    have hyL := hL.hk y (List.mem_of_getElem? hx)
    have hs8 := hc8.size
    refine wp_seq_k fun K3 hK3 => ?_; refine zac ?_
    refine wl_indexAddr (b := b') (o := o) (k := .i64) (i := i) (n := 2) (len := x.hs.length) (cap := ch) (by kernel_rfl) (by simp [evb, kb, hN, g29, sdb]) (by simp [evb, kb, hN, g31, sdb]) hi ?_
    refine wl_loadAgg_r (b := b') (o := o + i * 2) (n := 2) (by kernel_rfl) (by kernel_rfl) (by simp [evb, kb, hN, sdb]) hb2 (by omega) ?_
    generalize (cs.drop (o + i * 2)).take 2 = vx at hcx hlen hcl'
    refine zaH (z := zax [.string ⟨#[]⟩, .slice none 0 0]) (fun w => Tryd.zeroValue57 w) fun w9 hc9 hb9 hs9 => ?_
    refine zaA (b := w8.heap.size) (n := 2) (l' := vx) (by kernel_rfl) (by simp [evb, kb, hN, sdb]) (by simp [evb, kb, hN, sdb]; rfl) hb9 hlen hcl' rfl fun w10 hb10 hc10 => ?_
    refine zaa ?_; refine hK3 _ _ ?_; try clear hK3 K3
    have hc810 : Chg (fun _ => False) w8 w10 := hc9.trans hc10 fun n hn h => by omega
    have hs10 := hc10.size
    obtain ⟨vy, hvx, ovy⟩ := hcx
    have ovy10 : outNB w10 (fun g => True) y.val vy := ((ovy.chg hc8 fun k hk _ h => by omega).chg hc810 fun _ _ _ h => h).mono fun _ _ _ => trivial
    have oney := ovy.one
    have hbp10 := hbp.chg hc810 fun h => h
    have hgr10 : GrI 3 HdC 55 w10 M Gs ((x.hs.take i).map hdOf) u := hgr.chg one_hd hc810 (fun _ _ h => h) fun _ _ _ h => h
    obtain ⟨us, hul⟩ : (∃ oa n c, u = .slice oa n c) ∧ ∀ k, u.ownBlock = some k → M ≤ k ∧ k < w8.heap.size := by
      obtain ⟨cs, r1, r2⟩ := hgr.row
      obtain ⟨oa, c, e, _, _⟩ := ownsRow_slice r1
      exact ⟨⟨_, _, _, e⟩, fun k hk => ownsRow_lt r1 hk⟩
    have n1 : ¬ (u.ownBlock = some b) := fun e => by have := (hul b e).1; omega
    have n2 : ¬ (u.ownBlock = some w8.heap.size) := fun e => by have := (hul _ e).2; omega
    have hcu := hcl u us
    rw [hcu] at hbp10
    refine wp_schedK (fun w' => Chg (fun k => u.ownBlock = some k) w10 w') [(true, 0), (true, 1), (true, 2), (true, 3), (true, 4), (true, 5), (false, 6), (false, 7), (false, 8), (false, 9), (true, 10)] 11 zaz (by kernel_rfl) (by kernel_rfl) (Chg.drew _ _) ?_
    (repeat (refine ws_pY rfl ?_ ?_ ?_ ?_; (· (refine ⟨?_⟩; simp [rxb]; done)); (· simp [evb, pvb, rnb, kb, hN, seval, g5, ofR, dyb, sdb] <;> omega); (· kernel_rfl); try simp only [evb, pvb, rnb, kb, hN, seval, g5, ofR]))
    refine ws_load (b := b) (o := 8) (v := u) (by kernel_rfl) rfl (by simp only [evb, pvb, rnb, kb, hN, seval]) (fun _ c => hbp10.chg c n1) rfl ?_
    (repeat (refine ws_pY rfl ?_ ?_ ?_ ?_; (· (refine ⟨?_⟩; simp [rxb]; done)); (· simp [evb, pvb, rnb, kb, hN, seval, ofKR, dyb, sdb] <;> omega); (· kernel_rfl); try simp only [evb, pvb, rnb, kb, hN, seval, ofKR]))
    refine ws_load (b := w8.heap.size) (o := 0) (v := .string ⟨y.key.toArray⟩) (by kernel_rfl) rfl (by simp only [evb, pvb, rnb, kb, hN, seval]) (fun _ c => hb10.chg c n2) (by rw [hvx]; rfl) ?_
    (repeat (refine ws_pY rfl ?_ ?_ ?_ ?_; (· (refine ⟨?_⟩; simp [rxb]; done)); (· simp [evb, pvb, rnb, kb, hN, seval, ofKR, dyb, sdb] <;> omega); (· kernel_rfl); try simp only [evb, pvb, rnb, kb, hN, seval, ofKR]))
    refine ws_load (b := w8.heap.size) (o := 1) (v := vy) (by kernel_rfl) rfl (by simp only [evb, pvb, rnb, kb, hN, seval]) (fun _ c => hb10.chg c n2) (by rw [hvx]; rfl) ?_
    have hcd : Chg (fun _ => False) w10 w10.drew := Chg.drew _ _
    refine ws_call (fun args w => Tryd.call23 args w) rfl (by simp only [List.map_toArray, List.map_cons, List.map_nil, evb, kb, hN, seval]; exact octets_c (ovy10.chg hcd fun _ _ _ h => h) (by rw [octOf_len]; unfold LIM; omega)) ?_
    rintro _ w11 ⟨vs11, rfl, ho11, hc11⟩
    obtain ⟨y1, y2, rfl, q1, q2⟩ := ho11
    have hc1011 : Chg (fun _ => False) w10 w11 := hcd.trans hc11 fun _ _ h => h
    refine ⟨hc1011.mono fun _ _ h => h.elim, ?_⟩
    have hs11 := hc1011.size
    refine ws_step rfl fun K1 hK1 => ?_
    refine wl_build (l := [.string ⟨y.key.toArray⟩, .bool (zaP y.val).null, .slice y1 (zaP y.val).data.length y2]) (by simp only [List.map_toArray, List.map_cons, List.map_nil, evb, kb, hN, seval]; kernel_rfl) ?_
    refine zaa (hK1 _ _ (hc1011.mono fun _ _ h => h.elim) ?_)
    clear hK1 K1
    refine ws_step rfl fun K1 hK1 => ?_
    refine wl_lit1A (e := 55) (sz := 3) (z := zax [.string ⟨#[]⟩, .bool false, .slice none 0 0]) (cs := [.string ⟨y.key.toArray⟩, .bool (zaP y.val).null, .slice y1 (zaP y.val).data.length y2]) (by kernel_rfl) (by kernel_rfl) (fun w => Tryd.zeroValue55 w) (by decide) (by decide) (by simp only [evb, pvb, rnb, kb, hN, seval]) rfl fun w12 hc12 hb12 hs12 => ?_
    have hc1012 := hc1011.trans hc12 fun _ _ h => h
    refine zaa (hK1 _ _ (hc1012.mono fun _ _ h => h.elim) ?_)
    clear hK1 K1
    refine ws_step rfl fun K1 hK1 => ?_
    have hgr12 : GrI 3 HdC 55 w12 M (fun g => Gs g ∨ (w10.heap.size ≤ g ∧ g < w11.heap.size)) ((x.hs.take i).map hdOf) u := (hgr10.chg one_hd hc1012 (fun _ _ h => h) fun _ _ _ h => h).mono one_hd fun k _ hg => .inl hg
    have q2' : zam w12 (fun g => Gs g ∨ (w10.heap.size ≤ g ∧ g < w11.heap.size)) y1 (zaP y.val).data := (q2.mono (H := fun g => Gs g ∨ (w10.heap.size ≤ g ∧ g < w11.heap.size)) fun g hg hl => .inr ⟨hg, hl⟩).chg hc12 fun _ _ _ h => h
    refine wl_appLs one_hd (bytes := 48) (x1 := hdOf y) (base := M) (b := w11.heap.size) (c := 1) (by kernel_rfl) (by decide) (by simp only [evb, pvb, rnb, kb, hN, seval]) hgr12 (by simp only [evb, pvb, rnb, kb, hN, seval]) hb12 ⟨_, rfl, y1, y2, rfl, q1, q2'⟩ (by rw [List.length_map, List.length_take]; omega) (fun k hg e => by
      rcases hg with hg | hg
      · exact (hGs k hg).2.2 e
      · have := (hul k e).2; omega) (by omega) ?_
    intro v13 w13 hgr13 hc13 hblk13
    have hc1013 : Chg (fun k => u.ownBlock = some k) w10 w13 := (hc1012.mono fun _ _ h => h.elim).trans hc13 fun _ _ h => h
    refine zaa (hK1 _ _ hc1013 ?_)
    clear hK1 K1
    (repeat (refine ws_pY rfl ?_ ?_ ?_ ?_; (· (refine ⟨?_⟩; simp [rxb]; done)); (· simp [evb, pvb, rnb, kb, hN, seval, g5, ofR, dyb, sdb] <;> omega); (· kernel_rfl); try simp only [evb, pvb, rnb, kb, hN, seval, g5, ofR]))
    refine ws_nil ⟨_, rfl, ?_⟩
    have hbp13 := hbp10.chg hc1013 n1
    obtain ⟨us13, hown13⟩ : (∃ oa n c, v13 = .slice oa n c) ∧ ∀ k, v13.ownBlock = some k → M ≤ k ∧ k < w13.heap.size := by
      obtain ⟨cs, r1, r2⟩ := hgr13.row
      obtain ⟨oa, c, e, _, _⟩ := ownsRow_slice r1
      exact ⟨⟨_, _, _, e⟩, fun k hk => ownsRow_lt r1 hk⟩
    refine zap (b := b) (o := 8) (n := 1) (v := v13) (by kernel_rfl) (by simp only [evb, pvb, rnb, kb, hN, seval]) (by simp only [evb, pvb, rnb, kb, hN, seval]) hbp13 (by obtain ⟨_, _, _, e⟩ := us13; rw [e]; rfl) (by obtain ⟨_, _, _, e⟩ := us13; rw [e]; intro y hy; simp only [Value.cells, List.mem_singleton] at hy; subst hy; rfl) (by show 8 + 1 ≤ 9; omega) fun w14 hb14' hc14 => ?_
    refine zaa ?_
    have e14 : zaM [.int .i32 x.len, .int .i8 x.attr, .int .i64 x.d64, .int .i32 x.off, .bool (zaP x.key).null, .slice k1 (zaP x.key).data.length k2, .bool (zaP x.val).null, .slice v1 (zaP x.val).data.length v2, u] 8 v13.cells.toList = zaM vs 8 v13.cells.toList := by
      rw [hcl _ us13]; obtain ⟨_, _, _, e⟩ := us13; rw [e]; rfl
    rw [e14] at hb14'
    have hn13 : ¬ v13.ownBlock = some b := fun e => by have := (hown13 b e).1; omega
    have hs13 := hc1013.size
    have hs14 := hc14.size
    have hs1113 : w11.heap.size ≤ w13.heap.size := Nat.le_trans (by omega) hc13.size
    have hG13 : ∀ k, (Gs k ∨ (w10.heap.size ≤ k ∧ k < w11.heap.size)) → M ≤ k ∧ k < w14.heap.size ∧ v13.ownBlock ≠ some k := by
      intro k hk
      have hb : M ≤ k ∧ k < w11.heap.size ∧ u.ownBlock ≠ some k := by
        rcases hk with hk | hk
        · have := hGs k hk; exact ⟨this.1, by omega, this.2.2⟩
        · exact ⟨by omega, hk.2, fun e => by have := (hul k e).2; omega⟩
      refine ⟨hb.1, by omega, fun e => ?_⟩
      rcases hblk13 with h | ⟨j, h, hj⟩
      · rw [h] at e; exact hb.2.2 e
      · rw [h] at e; cases e; omega
    refine ⟨⟨v13, fun g => Gs g ∨ (w10.heap.size ≤ g ∧ g < w11.heap.size), by simp only [zaf, hN], by simp only [zab, hD], by simp only [evb, kb, hN, seval, g29], by simp only [evb, kb, hN, seval, g2], by simp only [evb, kb, hN, seval, g5], hb14', ?_, hG13, ?_⟩, by simp only [evb, kb, hN, seval, g30], by simp only [evb, kb, hN, seval, g31]⟩
    · have e : (x.hs.take (i + 1)).map hdOf = (x.hs.take i).map hdOf ++ [hdOf y] := by
        rw [List.take_succ, hx, Option.toList_some, List.map_append]; rfl
      rw [e]
      exact hgr13.chg one_hd hc14 (fun k hk e => hn13 (e ▸ hk)) fun k hk _ e => by
        subst e
        have := (hG13 _ hk).1
        omega
    · refine hc8.trans (((hc810.mono fun _ _ h => h.elim).trans (hc1013.mono fun k hk h => ?_) fun _ _ h => h).trans (hc14.mono fun k hk h => .inl h) fun _ _ h => h) fun _ _ h => h
      exact .inr (hul k h).1
  · clear hN hD g2 g4 g5 hb6
    rintro a1 w8 ⟨u, Gs, hN, hD, g29, g2, g5, hbp, hgr, hGs, hc8⟩
    refine hK _ _ ?_
    clear hK K
    rw [List.take_length] at hgr
    have us : ∃ oa n c, u = .slice oa n c := by
      obtain ⟨cs, r1, r2⟩ := hgr.row
      obtain ⟨oa, c, e, _, _⟩ := ownsRow_slice r1
      exact ⟨_, _, _, e⟩
    rw [hcl u us] at hbp
    obtain ⟨vr, hvr⟩ : ∃ vr : List Value, vr = [.int .i32 x.len, .int .i8 x.attr, .int .i64 x.d64, .int .i32 x.off, .bool (zaP x.key).null, .slice k1 (zaP x.key).data.length k2, .bool (zaP x.val).null, .slice v1 (zaP x.val).data.length v2, u] := ⟨_, rfl⟩
    rw [← hvr] at hbp
    have hlr : vr.length = 9 := by rw [hvr]; rfl
    have hcr : ∀ z ∈ vr, z.oneCell' = true := by
      obtain ⟨_, _, _, e⟩ := us
      rw [hvr, e]
      intro z hz
      simp only [List.mem_cons, List.not_mem_nil, or_false] at hz
      rcases hz with rfl | rfl | rfl | rfl | rfl | rfl | rfl | rfl | rfl <;> rfl
    have hc48 : Chg (fun _ => False) w4 w8 := hc46.trans hc8 fun n hn hk => by omega
    have hc08 : Chg (fun _ => False) w w8 := hc04.trans hc48 fun _ _ h => h
    have hb28 := hb14.chg hc48 fun h => h
    have hs8 := hc8.size
    refine wp_seq_k fun K hK => ?_; refine zac ?_; (repeat ((with_reducible refine zah ?_ ?_ ?_); (· simp [evb, pvb, rnb, kb, hN, g5, dyb, sdb] <;> omega); (· kernel_rfl); try simp only [evb, pvb, rnb, kb, hN, seval, g5]))
    refine zay (b := b) (o := 0) (n := 9) (by kernel_rfl) (by kernel_rfl) (by simp only [evb, pvb, rnb, kb, hN, seval, g5]) hbp (by omega) ?_
    rw [List.drop_zero, List.take_of_length_le (show vr.length ≤ 9 by omega)]
    refine zaA (b := w.heap.size) (n := 9) (l' := vr) (by kernel_rfl) (by simp only [evb, pvb, rnb, kb, hN, seval, g2]) (by simp only [evb, pvb, rnb, kb, hN, seval]; rfl) hb28 hlr hcr rfl fun w9 hb9 hc9 => ?_
    (repeat ((with_reducible refine zah ?_ ?_ ?_); (· simp [evb, pvb, rnb, kb, hN, dyb, sdb] <;> omega); (· kernel_rfl); try simp only [evb, pvb, rnb, kb, hN, seval])); refine zaa ?_; refine hK _ _ ?_; clear hK K
    have hwne : ∀ k, w.heap.size < k → ¬ k = w.heap.size := fun k hk e => by omega
    refine wp_ret ⟨by simp only [zab, hD], w.heap.size, _, _, by simp only [evb, pvb, rnb, kb, hN, seval, g2], hb9, by rw [hlr]; kernel_rfl, vr, by simp only [evb, pvb, rnb, kb, hN, seval]; rfl, ?_, hc08.trans hc9 fun n hn h => by omega⟩
    have hm := (m2.chg hc8 fun g hg _ h => by omega).chg hc9 fun g hg _ => hwne g (by omega)
    have hn := (n2.chg hc8 fun g hg _ h => by omega).chg hc9 fun g hg _ => hwne g (by omega)
    have hls := (hgr.chg one_hd hc9 (fun k hk e => by obtain ⟨cs, r1, _⟩ := hgr.row; have := (ownsRow_lt r1 hk).1; omega) fun k hk _ e => by have := (hGs k hk).1; omega).lss one_hd
    refine ⟨k1, k2, v1, v2, u, hvr, ⟨m1, hm.mono fun g hg _ => by omega⟩, ⟨n1, hn.mono fun g hg _ => by omega⟩, hls.stay one_hd (Stay.sub fun k hk hg => ?_), q.1, q.2.1, q.2.2.2.1, q.2.2.2.2⟩
    rcases hg with hg | hg
    · have := (hGs k hg).1; omega
    · omega
end Go.Proofs.YtojpodeljpfgaaaDoor
