import Derived.Test.YtbbocmkcciemdaaZJ
import Derived.Test.YtbbocmkcciemdaaZL
import Derived.Test.YtbbocmkcciemdaaZN
import Derived.Test.YtbbocmkcciemdaaRows
import Derived.WalkKit
import Derived.ProofKit
import Derived.OpenShut
import Derived.Below
/-
What the proofs of the laws rest on, part ZR.
-/
namespace Go.Proofs.Ytbbocmkcciemdaa
set_option linter.all false
open Go.RowKit
set_option maxRecDepth 10000
set_option maxHeartbeats 4000000
section
variable {P : Program} {Q : Act → World → Prop} {a : Act} {w : World}
theorem wp_any {l : List Oper} {id : Nat} {Q : Exit → Act → World → Prop} (hm : P.follows .mixedOrders = true) (h : wpAnyH P .any l.toArray (OneQ (Q .normal)) (fun _ => True) l.length (Array.replicate l.length false) a w.drew) : (Code.region id l.toArray true).wp P Q a w := by
  refine wp_mono (wp_region_held (Q := OneQ (Q .normal)) (S := fun _ => True) hm ?_) ?_
  · simpa using h
  · intro e a' w' hq
    cases e <;> first | exact hq | exact hq.elim
theorem wa_take {ops : Array Oper} {fuel i : Nat} {listed : Array Bool} {o : Oper} {v : Value} (hB : (Region.noSelect ops && Region.free .any ops listed i && (Region.ready .any ops listed).contains i) = true) (hi : ops[i]? = some o) (hg : o.guard = none)
    (hr : ∀ w, (execOp a.eval o).run P w = .ok (.value v) w) (h : wpAnyH P .any ops (OneQ Q) (fun _ => True) fuel (listed.setIfInBounds i true) (a.put o.dst v) w) : wpAnyH P .any ops (OneQ Q) (fun _ => True) (fuel + 1) listed a w := by
  simp only [Bool.and_eq_true] at hB
  exact wpAnyH_take hi hB.1.1 hB.1.2 hB.2 (fun _ _ _ h => h) (.inl ⟨by simp [Region.wanted, hg], fun w _ => hr w⟩) trivial h
theorem wa_move {ops : Array Oper} {fuel i : Nat} {listed : Array Bool} {d : Option Nat} {x : Operand} {ty : TypeId} {pos : String} {af : Array Edge} (hB : (Region.noSelect ops && Region.free .any ops listed i && (Region.ready .any ops listed).contains i) = true) (hi : ops[i]? = some ⟨d, .move x, ty, pos, af, none⟩)
    (h : wpAnyH P .any ops (OneQ Q) (fun _ => True) fuel (listed.setIfInBounds i true) (a.put d (a.eval x)) w) : wpAnyH P .any ops (OneQ Q) (fun _ => True) (fuel + 1) listed a w := wa_take hB hi rfl (fun _ => rfl) h
theorem wa_one {ops : Array Oper} {fuel i : Nat} {listed : Array Bool} {o : Oper} (hB : (Region.ready .any ops listed == [i]) = true) (hi : ops[i]? = some o)
    (h : WL P ops (OneQ fun a' w' => wpAnyH P .any ops (OneQ Q) (fun _ => True) fuel (listed.setIfInBounds i true) a' w') [o] a w) : wpAnyH P .any ops (OneQ Q) (fun _ => True) (fuel + 1) listed a w := by
  rw [beq_iff_eq] at hB
  refine wpAnyH_all hB (by simp) fun j hj => ?_
  have : j = i := by simpa using hj
  subst this
  exact wpOp_mono (fun _ _ h => ⟨trivial, h⟩) (wpOp_of_one hi h)
theorem wa_two {ops : Array Oper} {fuel i j : Nat} {listed : Array Bool} {o o' : Oper} (hB : (Region.ready .any ops listed == [i, j]) = true) (hi : ops[i]? = some o) (hj : ops[j]? = some o')
    (h : WL P ops (OneQ fun a' w' => wpAnyH P .any ops (OneQ Q) (fun _ => True) fuel (listed.setIfInBounds i true) a' w') [o] a w)
    (h' : WL P ops (OneQ fun a' w' => wpAnyH P .any ops (OneQ Q) (fun _ => True) fuel (listed.setIfInBounds j true) a' w') [o'] a w) : wpAnyH P .any ops (OneQ Q) (fun _ => True) (fuel + 1) listed a w := by
  rw [beq_iff_eq] at hB
  refine wpAnyH_all hB (by simp) fun k hk => ?_
  rcases List.mem_cons.1 hk with rfl | hk
  · exact wpOp_mono (fun _ _ h => ⟨trivial, h⟩) (wpOp_of_one hi h)
  · have : k = j := by simpa using hk
    subst this
    exact wpOp_mono (fun _ _ h => ⟨trivial, h⟩) (wpOp_of_one hj h')
theorem wa_nil {ops : Array Oper} {fuel : Nat} {listed : Array Bool} (hB : (Region.ready .any ops listed).isEmpty = true) (h : Q a w) : wpAnyH P .any ops (OneQ Q) (fun _ => True) fuel listed a w :=
  wpAnyH_done (by simpa using hB) h fuel
theorem wa_list {ops : Array Oper} {fuel : Nat} {l l' : Array Bool} {S : World → Prop} {Q : Exit → Act → World → Prop} (e : l = l') (h : wpAnyH P .any ops Q S fuel l' a w) : wpAnyH P .any ops Q S fuel l a w := e ▸ h
theorem wa_fin {ops : Array Oper} {fuel fuel' : Nat} {l l' : Array Bool} {S : World → Prop} {Q : Exit → Act → World → Prop} (F : Act → World → Prop) (h1 : ∀ a w, F a w → wpAnyH P .any ops Q S fuel' l' a w)
    (h2 : (∀ a w, F a w → wpAnyH P .any ops Q S fuel' l' a w) → wpAnyH P .any ops Q S fuel l a w) : wpAnyH P .any ops Q S fuel l a w := h2 h1
end
section
variable {ops : Array Oper} {Q : Exit → Act → World → Prop} {a : Act} {w : World} {rest : List Oper} {d : Option Nat} {ty : TypeId} {pos : String} {af : Array Edge}
theorem wl_appTgO {E t : Nat} (hT : rowB Try.prog t E 2 32 = true) {x y : Operand} {base c : Nat} {G : Nat → Prop} {acc l : zat} {v : Value} {b o : Nat} {cs : List Value} {T : TypeId} (hx : a.eval x = v) (hI : UkI E w base G acc v) (hy : a.eval y = .slice (some ⟨b, o, none⟩) l.length c)
    (hb : Rbk w b cs T) (ht : TgL w G l (cs.drop o)) (hlim : acc.length + l.length ≤ 4000000) (hG : ∀ k, v.ownBlock = some k → ¬ G k) (hbase : base ≤ w.heap.size)
    (h : ∀ v' w', UkI E w' base G (acc ++ l) v' → Chg (fun k => v.ownBlock = some k) w w' → (v'.ownBlock = v.ownBlock ∨ ∃ k, v'.ownBlock = some k ∧ w.heap.size ≤ k) → WL Try.prog ops Q rest (a.put d v') w') :
    WL Try.prog ops Q (⟨d, .call { callee := .builtin .append, args := #[x, y], argTypes := #[t, t] }, ty, pos, af, none⟩ :: rest) a w := by
  obtain ⟨xs, q1, q2⟩ := hI.row
  have hln := ht.len
  obtain ⟨v', w', hr, ha⟩ := run_appendRow (P := Try.prog) hT (by decide) ty q1 ⟨b, o, none⟩ l.length c ((cs.drop o).take (l.length * 2)) (by rw [List.length_take]; omega) (fun j u hj => by
    have hjn : j < l.length * 2 := by have := (List.getElem?_eq_some_iff.1 hj).1; rw [List.length_take] at this; omega
    rw [add_lit, hb.cell, ← seg_get hjn]; exact hj) ht.one (by omega) (by omega) hbase
  refine zak rfl (v := v') (w' := w') (by simp [execOp, resolve, invoke, builtin, hx, hy, hr]) (h v' w' ⟨xs ++ _, by rw [List.length_append]; exact ha.own, ?_⟩ ha.chg ha.blk)
  exact (TgL.append q2 q1.1 ht.fit).stay (Stay.of ha.chg fun k hk _ h => hG k h hk)
end
theorem uki_lt {E : Nat} {w : World} {base : Nat} {G : Nat → Prop} {acc : zat} {v : Value} (h : UkI E w base G acc v) : ∀ k, v.ownBlock = some k → base ≤ k ∧ k < w.heap.size := by
  obtain ⟨cs, q, _⟩ := h.row
  exact World.ownsRow.lt q
theorem uki_stay {E : Nat} {w w' : World} {base : Nat} {G G' : Nat → Prop} {acc : zat} {v : Value} {X : Nat → Prop} (h : UkI E w base G acc v) (c : Chg X w w') (hx : ∀ k, v.ownBlock = some k → ¬ X k) (hG : ∀ k, G k → k < w.heap.size → ¬ X k) (hGG : ∀ k, G k → k < w.heap.size → G' k) : UkI E w' base G' acc v := by
  obtain ⟨cs, h1, h2⟩ := h.row
  refine ⟨cs, ⟨h1.1, ?_⟩, h2.stay ⟨fun k hk hg => ⟨c.block k hk (hG k hg hk), hGG k hg hk⟩⟩⟩
  rcases h1.2 with hn | ⟨g, cap, cur, rfl, hbg, hg, rest⟩
  · exact .inl hn
  · refine .inr ⟨g, cap, cur, rfl, hbg, ?_, rest⟩
    have hlt := (Array.getElem?_eq_some_iff.1 hg).1
    rw [c.block g hlt (hx g rfl)]; exact hg
def TgV (w0 : World) (D : Nat) (acc : zat) (w : World) : Prop := ∃ (B : Nat → Prop) (v : Value), UkI 37 w w0.heap.size B acc v ∧ (∀ k, B k → w0.heap.size ≤ k ∧ k < w.heap.size) ∧ (∀ k, v.ownBlock = some k → ¬ B k) ∧ Blk w D [v] 22 ∧ Chg (fun k => k = D ∨ w0.heap.size ≤ k) w0 w
theorem uki_cells {E : Nat} {w : World} {base : Nat} {G : Nat → Prop} {acc : zat} {v : Value} (h : UkI E w base G acc v) : v.cells = #[v] ∧ v.oneCell' = true := by
  obtain ⟨oa, cap, rfl, _⟩ := uki_len h
  exact ⟨rfl, rfl⟩
theorem tagClo_c {w0 w : World} {D cap : Nat} {acc : zat} {x : Nat × Bs} {oa : Option Addr} {G : Nat → Prop} (h : TgV w0 D acc w) (hx : zad w G oa x.2) (hD0 : D < w0.heap.size) (h32 : x.1 < 4294967296) (hlim : x.2.length ≤ LIM) (hacc : acc.length < 1048576) :
    zao Try.prog 21 #[.int .u32 (x.1 : Nat), .slice oa x.2.length cap, .pointer (some ⟨D, 0, none⟩)] w fun _ w' => TgV w0 D (acc ++ [x]) w' := by
  obtain ⟨B, v, hU, hB, hvB, hbD, hc0⟩ := h
  have hs0 := hc0.size
  have hvlt := uki_lt hU
  refine callsR_of0 Try.func21 rfl rfl Try.ntmps21 (by simp) ?_
  intro a hN hD ha
  have g0 : get a 0 = .int .u32 (x.1 : Nat) := ha 0 _ rfl
  have g1 : get a 1 = .slice oa x.2.length cap := ha 1 _ rfl
  have g2 : get a 2 = .pointer (some ⟨D, 0, none⟩) := ha 2 _ rfl
  clear ha
  have hx2 : zad w.drew G oa x.2 := hx.chg (Chg.drew (fun _ => False) _) fun _ _ _ h => h
  have hbD2 : Blk w.drew D [v] 22 := hbD.chg (Chg.drew (fun _ => False) _) fun h => h
  refine wp_any follows_any ?_
  refine wa_fin (fuel' := 2) (l' := #[true, true, true, true, true, true, false, false]) (fun a' w' => ∃ (ob : Option Addr) (cb n8 b10 : Nat), a'.tmps.size = 12 ∧ a'.defers = [] ∧ get a' 2 = .pointer (some ⟨D, 0, none⟩) ∧ get a' 5 = v ∧ get a' 10 = .slice (some ⟨b10, 0, none⟩) 1 1 ∧ Blk w' b10 [.int .u32 x.1, .slice ob x.2.length cb] 37 ∧ x.2.length ≤ cb ∧
    Chg (fun _ => False) w w' ∧ zad w' (fun k => w.heap.size ≤ k ∧ k < n8) ob x.2 ∧ w.heap.size ≤ n8 ∧ n8 ≤ w'.heap.size) ?_ fun fin => ?_
  · clear hN hD g0 g1 g2
    rintro a' w' ⟨ob, cb, n8, b10, hN, hD, g2, g5, g10, hb10, hcb, hc, hob, hn1, hn2⟩
    have hU' : UkI 37 w' w0.heap.size (fun k => B k ∨ (w.heap.size ≤ k ∧ k < n8)) acc v := uki_stay hU hc (fun _ _ h => h) (fun _ _ _ h => h) fun k h _ => .inl h
    have hsz := hc.size
    refine wa_one (i := 6) (by kernel_rfl) rfl ?_
    refine wl_appTgO (E := 37) (by kernel_rfl) (o := 0) (l := [x]) (c := 1) (by simp [evb, kb, hN, g5, sdb]) hU' (by simp [evb, kb, hN, g10, sdb]) hb10.r ⟨⟨ob, cb, rfl, h32, hcb, hob.stay ⟨fun k _ h => ⟨rfl, .inr h⟩⟩⟩, trivial⟩ (by simp only [List.length_singleton]; omega) (fun k hk => ?_) (by omega) fun v11 w11 hU11 hc11 hblk => ?_
    · have := (hvlt k hk).2
      rintro (h | h)
      · exact hvB k hk h
      · omega
    refine zab ?_
    refine wa_one (i := 7) (by kernel_rfl) rfl ?_
    have hs11 := hc11.size
    have hDv : ∀ k, v.ownBlock = some k → k ≠ D := fun k hk => by have := (hvlt k hk).1; omega
    have hcl := uki_cells hU11
    have hD11 : Blk w11 D [v] 22 := (hbD.chg hc fun h => h).chg hc11 fun h => hDv D h rfl
    refine wl_store (b := D) (o := 0) (n := 1) (v := v11) (by kernel_rfl) (by simp [evb, kb, hN, g2, sdb]) (by simp [evb, kb, hN, sdb]) hD11 (by rw [hcl.1]; rfl) (by intro y hy; rw [hcl.1] at hy; simp only [List.mem_singleton] at hy; subst hy; exact hcl.2) (by simp) fun w12 hb12 hc12 => ?_
    have e12 : zan [v] 0 v11.cells.toList = [v11] := by rw [hcl.1]; simp [zan]
    rw [e12] at hb12
    refine zab (wa_nil (by kernel_rfl) ⟨by simp only [zaa, hD], _, v11, uki_stay hU11 hc12 (fun k hk e => ?_) (fun k hk _ e => ?_) (fun k hk _ => hk), fun k hk => ?_, fun k hk => ?_, hb12, (((hc0.trans hc fun _ _ h => h.elim).trans hc11 fun k _ h => .inr (hvlt k h).1).trans hc12 fun k _ h => .inl h)⟩)
    · have := (uki_lt hU11 k hk).1; omega
    · rcases hk with hk | hk
      · have := hB k hk; omega
      · omega
    · have := hc12.size
      rcases hk with hk | hk
      · have := hB k hk; omega
      · omega
    · rcases hblk with e | ⟨j, e, hj⟩
      · rw [e] at hk
        rintro (h | h)
        · exact hvB k hk h
        · have := (hvlt k hk).2; omega
      · rw [e] at hk
        have hjk : j = k := by simpa using hk
        rintro (h | h)
        · have := hB k h; omega
        · omega
  refine wa_move (i := 1) (by kernel_rfl) rfl ?_
  refine wa_move (i := 2) (by kernel_rfl) rfl ?_
  simp only [evb, kb, hN, seval, g0, g1]
  refine wa_two (i := 0) (j := 3) (by kernel_rfl) rfl rfl ?_ ?_
  · refine wl_load (b := D) (o := 0) (by kernel_rfl) (by simp [evb, kb, hN, g2, sdb]) (hbD2) (v := v) rfl ?_
    refine zab ?_
    refine wa_one (i := 3) (by kernel_rfl) rfl ?_
    refine wl_append (c := cap) (e := eB) (base := w.heap.size) (G := G) bT (by simp only [evb, kb, hN, seval]) (by simp only [evb, kb, hN, seval]) (Own.nil _ _ _) hx2 (by simp only [List.length_nil]; omega) (by simp) fun v8 w8 h8 => ?_
    refine zab ?_
    obtain ⟨ob, cb, rfl, hcb, hob⟩ := h8.own.bytes
    rw [List.nil_append] at hcb hob
    have hc8 : Chg (fun _ => False) w w8 := (Chg.drew (fun _ => False) w).trans h8.chg fun k _ h => by cases h
    have hob8 : zad w8 (fun k => w.heap.size ≤ k ∧ k < w8.heap.size) ob x.2 := hob.stay ⟨fun k hk hg => ⟨rfl, own_ge h8.own k hg⟩⟩
    have hD8 := hbD.chg hc8 fun h => h
    rw [List.nil_append]
    refine wa_one (i := 4) (by kernel_rfl) rfl ?_
    refine wl_build (l := [.int .u32 x.1, .slice ob x.2.length cb]) (by simp only [List.map_toArray, List.map_cons, List.map_nil, evb, kb, hN, seval]; kernel_rfl) ?_
    refine zab ?_
    refine wa_one (i := 5) (by kernel_rfl) rfl ?_
    refine wl_lit1 (e := 37) (sz := 2) (z := aggOf [.int .u32 0, .slice none 0 0]) (l := [.int .u32 x.1, .slice ob x.2.length cb]) (by kernel_rfl) (by kernel_rfl) (fun w => Try.zeroValue37 w) (by simp [evb, kb, hN, sdb]) rfl (by decide) (by decide) fun w10 hc10 hb10 hs10 => ?_
    refine zab ?_
    have hc08 : Chg (fun _ => False) w w10 := hc8.trans hc10 fun _ _ h => h
    have hD10 := hbD.chg hc08 fun h => h
    have hob10 : zad w10 (fun k => w.heap.size ≤ k ∧ k < w8.heap.size) ob x.2 := hob8.chg hc10 fun _ _ _ h => h
    refine wa_list (l' := #[true, true, true, true, true, true, false, false]) (by kernel_rfl) ?_
    exact fin _ _ ⟨ob, cb, w8.heap.size, _, by simp only [evb, kb, hN, seval], by simp only [zaa, hD], by simp only [evb, kb, hN, seval, g2], by simp only [evb, kb, hN, seval], by simp only [evb, kb, hN, seval], hb10, hcb, hc08, hob10, hc8.size, hc10.size⟩
  · refine wl_append (c := cap) (e := eB) (base := w.heap.size) (G := G) bT (by simp only [evb, kb, hN, seval]) (by simp only [evb, kb, hN, seval]) (Own.nil _ _ _) hx2 (by simp only [List.length_nil]; omega) (by simp) fun v8 w8 h8 => ?_
    refine zab ?_
    obtain ⟨ob, cb, rfl, hcb, hob⟩ := h8.own.bytes
    rw [List.nil_append] at hcb hob
    have hc8 : Chg (fun _ => False) w w8 := (Chg.drew (fun _ => False) w).trans h8.chg fun k _ h => by cases h
    have hob8 : zad w8 (fun k => w.heap.size ≤ k ∧ k < w8.heap.size) ob x.2 := hob.stay ⟨fun k hk hg => ⟨rfl, own_ge h8.own k hg⟩⟩
    have hD8 := hbD.chg hc8 fun h => h
    rw [List.nil_append]
    refine wa_two (i := 0) (j := 4) (by kernel_rfl) rfl rfl ?_ ?_
    · refine wl_load (b := D) (o := 0) (by kernel_rfl) (by simp [evb, kb, hN, g2, sdb]) (hD8) (v := v) rfl ?_
      refine zab ?_
      refine wa_one (i := 4) (by kernel_rfl) rfl ?_
      refine wl_build (l := [.int .u32 x.1, .slice ob x.2.length cb]) (by simp only [List.map_toArray, List.map_cons, List.map_nil, evb, kb, hN, seval]; kernel_rfl) ?_
      refine zab ?_
      refine wa_one (i := 5) (by kernel_rfl) rfl ?_
      refine wl_lit1 (e := 37) (sz := 2) (z := aggOf [.int .u32 0, .slice none 0 0]) (l := [.int .u32 x.1, .slice ob x.2.length cb]) (by kernel_rfl) (by kernel_rfl) (fun w => Try.zeroValue37 w) (by simp [evb, kb, hN, sdb]) rfl (by decide) (by decide) fun w10 hc10 hb10 hs10 => ?_
      refine zab ?_
      have hc08 : Chg (fun _ => False) w w10 := hc8.trans hc10 fun _ _ h => h
      have hD10 := hbD.chg hc08 fun h => h
      have hob10 : zad w10 (fun k => w.heap.size ≤ k ∧ k < w8.heap.size) ob x.2 := hob8.chg hc10 fun _ _ _ h => h
      refine wa_list (l' := #[true, true, true, true, true, true, false, false]) (by kernel_rfl) ?_
      exact fin _ _ ⟨ob, cb, w8.heap.size, _, by simp only [evb, kb, hN, seval], by simp only [zaa, hD], by simp only [evb, kb, hN, seval, g2], by simp only [evb, kb, hN, seval], by simp only [evb, kb, hN, seval], hb10, hcb, hc08, hob10, hc8.size, hc10.size⟩
    · refine wl_build (l := [.int .u32 x.1, .slice ob x.2.length cb]) (by simp only [List.map_toArray, List.map_cons, List.map_nil, evb, kb, hN, seval]; kernel_rfl) ?_
      refine zab ?_
      refine wa_two (i := 0) (j := 5) (by kernel_rfl) rfl rfl ?_ ?_
      · refine wl_load (b := D) (o := 0) (by kernel_rfl) (by simp [evb, kb, hN, g2, sdb]) (hD8) (v := v) rfl ?_
        refine zab ?_
        refine wa_one (i := 5) (by kernel_rfl) rfl ?_
        refine wl_lit1 (e := 37) (sz := 2) (z := aggOf [.int .u32 0, .slice none 0 0]) (l := [.int .u32 x.1, .slice ob x.2.length cb]) (by kernel_rfl) (by kernel_rfl) (fun w => Try.zeroValue37 w) (by simp [evb, kb, hN, sdb]) rfl (by decide) (by decide) fun w10 hc10 hb10 hs10 => ?_
        refine zab ?_
        have hc08 : Chg (fun _ => False) w w10 := hc8.trans hc10 fun _ _ h => h
        have hD10 := hbD.chg hc08 fun h => h
        have hob10 : zad w10 (fun k => w.heap.size ≤ k ∧ k < w8.heap.size) ob x.2 := hob8.chg hc10 fun _ _ _ h => h
        refine wa_list (l' := #[true, true, true, true, true, true, false, false]) (by kernel_rfl) ?_
        exact fin _ _ ⟨ob, cb, w8.heap.size, _, by simp only [evb, kb, hN, seval], by simp only [zaa, hD], by simp only [evb, kb, hN, seval, g2], by simp only [evb, kb, hN, seval], by simp only [evb, kb, hN, seval], hb10, hcb, hc08, hob10, hc8.size, hc10.size⟩
      · refine wl_lit1 (e := 37) (sz := 2) (z := aggOf [.int .u32 0, .slice none 0 0]) (l := [.int .u32 x.1, .slice ob x.2.length cb]) (by kernel_rfl) (by kernel_rfl) (fun w => Try.zeroValue37 w) (by simp [evb, kb, hN, sdb]) rfl (by decide) (by decide) fun w10 hc10 hb10 hs10 => ?_
        refine zab ?_
        have hc08 : Chg (fun _ => False) w w10 := hc8.trans hc10 fun _ _ h => h
        have hD10 := hbD.chg hc08 fun h => h
        have hob10 : zad w10 (fun k => w.heap.size ≤ k ∧ k < w8.heap.size) ob x.2 := hob8.chg hc10 fun _ _ _ h => h
        refine wa_one (i := 0) (by kernel_rfl) rfl ?_
        refine wl_load (b := D) (o := 0) (by kernel_rfl) (by simp [evb, kb, hN, g2, sdb]) (hD10) (v := v) rfl ?_
        refine zab ?_
        refine wa_list (l' := #[true, true, true, true, true, true, false, false]) (by kernel_rfl) ?_
        exact fin _ _ ⟨ob, cb, w8.heap.size, _, by simp only [evb, kb, hN, seval], by simp only [zaa, hD], by simp only [evb, kb, hN, seval, g2], by simp only [evb, kb, hN, seval], by simp only [evb, kb, hN, seval], hb10, hcb, hc08, hob10, hc8.size, hc10.size⟩
end Go.Proofs.Ytbbocmkcciemdaa
namespace Go.Proofs.Ytbbocmkcciemdaa
set_option linter.all false
open Go.RowKit
set_option maxRecDepth 10000
set_option maxHeartbeats 4000000
theorem tagged_c {w : World} {G : Nat → Prop} {m : Option Nat} {tags : zat} (ht : TagsAt w G m tags) (hG : ∀ k, G k → k < w.heap.size) (hlen : tags.length ≤ 1048576) (hv : ∀ x ∈ tags, x.2.length ≤ LIM) :
    zao Try.prog 15 #[.agg #[.map m]] w fun r w' => TgS w' (fun g => w.heap.size ≤ g) (zah tags) r ∧ Chg (fun _ => False) w w' := by
  refine zar Try.func15 rfl rfl Try.ntmps15 (by simp) ?_
  intro a hN hD ha
  have g0 : get a 0 = aggOf [.map m] := ha 0 _ rfl
  refine wp_seq_k fun K hK => ?_; refine zac ?_
  refine wl_boxA (l := [.map m]) (by simp [evb, kb, hN, g0, sdb]) fun w1 hc1 hb1 hs1 => ?_
  (repeat ((with_reducible refine zaj ?_ ?_ ?_); (· simp [evb, pvb, rnb, kb, hN, dyb, sdb] <;> omega); (· kernel_rfl); try simp only [evb, pvb, rnb, kb, hN, seval])); refine zab ?_; refine hK _ _ ?_; clear hK K
  refine wp_seq_k fun K hK => ?_; refine zac ?_
  refine wl_allocA (z := .slice none 0 0) (fun w => Try.zeroValue22 w) fun w2 hc2 hb2 hs2 => ?_
  refine zab ?_; refine hK _ _ ?_; clear hK K
  have hc02 : Chg (fun _ => False) w w2 := hc1.trans hc2 fun _ _ h => h
  have hb12 := hb1.chg hc2 fun h => h
  have hb2' : Blk w2 w1.heap.size [.slice none 0 0] 22 := hb2
  have hs12 : w1.heap.size = w.heap.size + 1 := hs1
  have hs22 : w2.heap.size = w.heap.size + 2 := by omega
  refine wp_seq_k fun K hK => ?_; refine zac ?_
  refine zak rfl (v := .func (.func 21) #[] #[.pointer (some ⟨w1.heap.size, 0, none⟩)]) (w' := w2) (by simp [execOp, Instr.makeFunc, evb, kb, hN, seval]) ?_
  refine zau (R := fun _ w' => ∃ wq, Chg (fun _ => False) w2 wq ∧ TgV wq w1.heap.size (zah tags) w') (fun args w => Try.call20 args w) (by
    simp only [List.map_toArray, List.map_cons, List.map_nil, evb, kb, hN, seval]
    refine Each_c (G := G) (X := fun k => k = w1.heap.size) (m := m) (tags := tags) hb12 rfl (ht.stay (Stay.of hc02 fun _ _ _ h => h)) (by omega) (fun args w => Try.call21 args w) ?_ ?_ ?_ ?_ ?_ ?_
    · omega
    · intro k hk e; have := hG k hk; omega
    · intro k hk; have := hG k hk; omega
    · intro k hk; omega
    · rintro rfl
      exact ⟨w2, Chg.refl _ _, fun _ => False, .slice none 0 0, UkI.nil _ _ _ _, fun _ h => h.elim, fun _ _ h => h, hb2', Chg.refl _ _⟩
    · intro wq hcq
      refine ⟨fun t w' => TgV wq w1.heap.size t w', ⟨fun _ => False, .slice none 0 0, UkI.nil _ _ _ _, fun _ h => h.elim, fun _ _ h => h, hb2'.chg hcq fun h => h, Chg.refl _ _⟩, ?_, ?_, ?_⟩
      · rintro t w' ⟨_, _, _, _, _, _, h⟩; exact h
      · rintro done x w' oa cap hI hx hxm h32 ⟨r, hr⟩
        have hl := congrArg List.length hr
        rw [tagSort_len, List.length_append, List.length_cons] at hl
        have := hcq.size
        exact tagClo_c hI hx (by omega) h32 (hv x hxm) (by omega)
      · intro w' h; exact ⟨wq, hcq, h⟩) ?_
  rintro _ w5 ⟨wq, hcq, B, v, hU, hB, _, hbD, hc5⟩
  have hsq := hcq.size
  refine zab ?_; refine hK _ _ ?_; clear hK K
  refine wp_seq_k fun K hK => ?_; refine zac ?_
  refine wl_load (b := w1.heap.size) (o := 0) (by kernel_rfl) (by simp [evb, kb, hN, sdb]) hbD (v := v) rfl ?_
  (repeat ((with_reducible refine zaj ?_ ?_ ?_); (· simp [evb, pvb, rnb, kb, hN, dyb, sdb] <;> omega); (· kernel_rfl); try simp only [evb, pvb, rnb, kb, hN, seval])); refine zab ?_; refine hK _ _ ?_; clear hK K; refine wp_ret ⟨by simp [zaa, hD], ?_⟩; simp only [evb, kb, hN, seval]
  refine ⟨hU.tgs.stay ⟨fun k hk hg => ⟨rfl, ?_⟩⟩, ?_⟩
  · rcases hg with h | h
    · have := hB k h; omega
    · omega
  · exact chg_own (((hc02.trans hcq fun _ _ h => h).mono (Y := fun k => w.heap.size ≤ k) fun _ _ h => h.elim).trans hc5 fun k _ h => by omega)
end Go.Proofs.Ytbbocmkcciemdaa
namespace Go.Proofs.Ytbbocmkcciemdaa
set_option linter.all false
open Go.RowKit
set_option maxRecDepth 10000
set_option maxHeartbeats 4000000
def Fin3 (r s t : Nat) (R : Value → World → Prop) : Exit → Act → World → Prop
  | .normal, a, w | .ret, a, w => a.defers = [] ∧ R (.tuple #[get a r, get a s, get a t]) w
  | _, _, _ => False
theorem res3 {fn : Func} {r s t : Nat} (h : fn.results = #[.tmp r, .tmp s, .tmp t]) (tmps : Array Value) (P : Program) (w : World) : (results fn tmps).run P w = .ok (.tuple #[tmps.getD r undef, tmps.getD s undef, tmps.getD t undef]) w := by
  simp [results, h]
theorem callsR_of3 {P : Program} {f : FuncId} {fn : Func} {c : Code} {args : Array Value} {w : World} {R : Value → World → Prop} {r s t n : Nat}
    (hf : P.funcs[f]? = some fn) (hb : fn.body = some c) (hr : fn.results = #[.tmp r, .tmp s, .tmp t]) (hn : fn.ntmps = n) (hs : args.size ≤ n)
    (h : ∀ a : Act, a.tmps.size = n → a.defers = [] → (∀ i v, args[i]? = some v → get a i = v) → c.wp P (Fin3 r s t R) a w) : zao P f args w R := by
  refine calls_of_wp hf hb ?_
  refine wp_mono (h (Start fn args) (start_size hn hs) rfl fun i v => start_get) ?_
  intro e a w' hq
  cases e <;> simp only [Fin3] at hq
  · exact ⟨hq.1, _, res3 hr _ _ _, _, rfl, hq.2⟩
  · exact ⟨hq.1, _, res3 hr _ _ _, _, rfl, hq.2⟩
theorem uvA_le : ∀ (k n : Nat), (uvarAux k n).length ≤ k + 1
  | 0, n => by simp [uvarAux]
  | k + 1, n => by
    unfold uvarAux
    split
    · simp
    · have := uvA_le k (n / 128); simp only [List.length_cons]; omega
theorem encTag_le (x : Nat × Bs) : (encTag x).length ≤ x.2.length + 10 := by
  have h1 : (uvar x.1).length ≤ 5 := uvA_le 4 _
  have h2 : (uvar (x.2.length % 4294967296)).length ≤ 5 := uvA_le 4 _
  unfold encTag; simp only [List.length_append]; omega
theorem encTags_le (n : Nat) : ∀ (t : zat), (∀ x ∈ t, x.2.length ≤ n) → (t.flatMap encTag).length ≤ t.length * (n + 10)
  | [], _ => by simp
  | x :: r, h => by
    have h1 := encTags_le n r fun y hy => h y (by simp [hy])
    have h2 := encTag_le x
    have h3 := h x (by simp)
    simp only [List.flatMap_cons, List.length_append, List.length_cons, Nat.add_mul, Nat.one_mul]; omega
def setAll (l : zat) : zat := l.foldl (fun t x => tagSet t x.1 x.2) []
theorem tagSet_mem : ∀ (t : zat) (k : Nat) (v : Bs), ∀ x ∈ tagSet t k v, x = (k, v) ∨ x ∈ t
  | [], k, v, x, h => by simp [tagSet] at h; exact .inl h
  | (j, u) :: r, k, v, x, h => by
    unfold tagSet at h
    split at h
    · rename_i e
      subst e
      rcases List.mem_cons.1 h with h | h
      · exact .inl h
      · exact .inr (by simp [h])
    · rcases List.mem_cons.1 h with h | h
      · exact .inr (by simp [h])
      · rcases tagSet_mem r k v x h with h | h
        · exact .inl h
        · exact .inr (by simp [h])
theorem tagSet_length : ∀ (t : zat) (k : Nat) (v : Bs), (tagSet t k v).length ≤ t.length + 1
  | [], k, v => by simp [tagSet]
  | (j, u) :: r, k, v => by
    have h2 := tagSet_length r k v
    unfold tagSet
    split
    · simp
    · simp only [List.length_cons]; omega
theorem setAll_snoc (l : zat) (x : Nat × Bs) : setAll (l ++ [x]) = tagSet (setAll l) x.1 x.2 := by simp [setAll]
theorem TagsAt.nodup {w : World} {G : Nat → Prop} {m : Option Nat} {t : zat} (h : TagsAt w G m t) : (t.map (·.1)).Nodup := by
  rcases h with ⟨_, rfl⟩ | ⟨r, es, c, _, _, _, _, h, _⟩
  · exact List.nodup_nil
  · exact h
structure SmallT (t : zat) : Prop where
  len : t.length ≤ 50
  each : ∀ x ∈ t, x.1 < 4294967296 ∧ x.2.length ≤ 2000
  nd : (t.map (·.1)).Nodup
theorem SetTags_c {w : World} {G : Nat → Prop} {l : zat} {v : Value} (hl : TgS w G l v) (h50 : l.length ≤ 50) (hv : ∀ x ∈ l, x.2.length ≤ 2000) (hG : ∀ k, G k → k < w.heap.size) :
    zao Try.prog 6 #[v] w fun r w' => ∃ T, SmallT T ∧ ∃ each ow cw, r = .tuple #[.int .i64 T.length, each, .slice ow (zam T).length cw] ∧ TgS w' (fun g => w.heap.size ≤ g) (zah T) each ∧ zad w' (fun g => w.heap.size ≤ g) ow (zam T) ∧ Chg (fun _ => False) w w' := by
  obtain ⟨oa, cap, rfl, hcap, hrow⟩ := hl
  refine callsR_of3 Try.func6 rfl rfl Try.ntmps6 (by simp) ?_
  intro a hN hD hargs
  have h0 : get a 0 = .slice oa l.length cap := hargs 0 _ rfl
  clear hargs
  refine wp_seq_k fun K hK => ?_; refine zac ?_; (repeat ((with_reducible refine zaj ?_ ?_ ?_); (· simp [evb, pvb, rnb, kb, hN, dyb, sdb] <;> omega); (· kernel_rfl); try simp only [evb, pvb, rnb, kb, hN, seval])); refine zab ?_; refine hK _ _ ?_; clear hK K
  refine wp_seq_k fun K hK => ?_; refine zac ?_
  refine wl_allocA (z := aggOf [.map none]) (fun w => Try.zeroValue41 w) fun w1 hc1 hb1 hs1 => ?_
  refine zab ?_; refine hK _ _ ?_; clear hK K
  have hb1' : Blk w1 w.heap.size [.map none] 41 := hb1
  refine wp_seq_k fun K hK => ?_; refine wp_seq_k fun K1 hK1 => ?_; refine zac ?_; (repeat ((with_reducible refine zaj ?_ ?_ ?_); (· simp [evb, pvb, rnb, kb, hN, h0, dyb, sdb] <;> omega); (· kernel_rfl); try simp only [evb, pvb, rnb, kb, hN, seval, h0])); refine zab ?_; refine hK1 _ _ ?_; try clear hK1 K1
  refine wp_range (n := l.length) (fun i a' w' => ∃ m, a'.tmps.size = 25 ∧ a'.defers = [] ∧ get a' 5 = .pointer (some ⟨w.heap.size, 0, none⟩) ∧ get a' 8 = .slice oa l.length cap ∧ Blk w' w.heap.size [.map m] 41 ∧
      TagsAt w' (fun k => w.heap.size ≤ k ∧ k ≠ w.heap.size) m (setAll (l.take i)) ∧ (setAll (l.take i)).length ≤ i ∧ (∀ x ∈ setAll (l.take i), x.1 < 4294967296 ∧ x.2.length ≤ 2000) ∧ Chg (fun k => w.heap.size ≤ k) w w') 25 (by omega)
    (by simp only [evb, kb, hN, seval]; try rfl) (by simp only [evb, kb, hN, seval]) ⟨none, by simp only [evb, kb, hN, seval], by simp [zaa, hD], by simp only [evb, kb, hN, seval], by simp only [evb, kb, hN, seval], hb1', .inl ⟨rfl, rfl⟩, Nat.le_refl _, (fun x h => by cases h), hc1.mono fun _ _ h => h.elim⟩ ?_ ?_ (by decide) ?_ ?_
  · rintro i a w ⟨_, h, _⟩; exact h
  · rintro i a w t v ht ⟨m, k1, k2, k3, k4, k5⟩
    rcases ht with rfl | rfl | rfl <;> exact ⟨m, by rw [zai]; exact k1, by rw [zaa]; exact k2, by rw [zal (by decide)]; exact k3, by rw [zal (by decide)]; exact k4, k5⟩
  · clear hN hD h0
    rintro i a1 w2 hi ⟨m, hN, hD, g5, g8, hbT, hT, hTl, hTe, hc2⟩ g9 g10
    have hx : l[i]? = some l[i] := by simp [hi]
    have hxl : l[i].2.length ≤ 2000 := hv _ (List.getElem_mem hi)
    generalize l[i] = x at hx hxl
    rcases hrow with rfl | ⟨b, o, cs, T, rfl, hGb, hb, htl⟩
    · simp at hi
    obtain ⟨hcx, hlx⟩ := htl.get hx
    obtain ⟨ob, cb, hx1, hx2, hx3, hx4⟩ := hcx
    have hblt := hb.lt
    have hb2 : Rbk w2 b cs T := hb.chg hc2 (by omega)
    have hs2 := hc2.size
    rw [List.length_drop] at hlx
    rw [List.drop_drop] at hx1
    refine wp_seq_k fun K3 hK3 => ?_; refine zac ?_
    refine wl_indexAddr (b := b) (o := o) (k := .i64) (i := i) (n := 2) (len := l.length) (cap := cap) (by kernel_rfl) (by simp [evb, kb, hN, g8, sdb]) (by simp [evb, kb, hN, g10, sdb]) hi ?_
    refine wl_loadAgg_r (b := b) (o := o + i * 2) (n := 2) (by kernel_rfl) (by kernel_rfl) (by simp [evb, kb, hN, sdb]) hb2 (by omega) ?_
    rw [hx1]
    refine wl_allocA (z := aggOf [.int .u32 0, .slice none 0 0]) (fun w => Try.zeroValue37 w) fun w3 hc3 hb3 hs3 => ?_
    refine wl_storeAll (b := w2.heap.size) (n := 2) (l' := [.int .u32 x.1, .slice ob x.2.length cb]) (by kernel_rfl) (by simp [evb, kb, hN, sdb]) (by simp [evb, kb, hN, sdb]; rfl) hb3 rfl (by intro y hy; simp only [List.mem_cons, List.not_mem_nil, or_false] at hy; rcases hy with rfl | rfl <;> rfl) rfl fun w4 hb4 hc4 => ?_
    refine zab ?_; refine hK3 _ _ ?_; try clear hK3 K3
    have hc24 : Chg (fun _ => False) w2 w4 := hc3.trans hc4 fun n hn h => by omega
    have hc04 : Chg (fun k => w.heap.size ≤ k) w w4 := hc2.trans hc24 fun _ _ h => h.elim
    have hs04 := hc04.size
    have hp8 := hb4.lt
    have hbT4 := hbT.chg hc24 fun h => h
    have hltT := hbT.lt
    have hT4 := hT.stay (Stay.of hc24 (G := fun k => w.heap.size ≤ k ∧ k ≠ w.heap.size) fun _ _ _ h => h)
    have hmr : ∀ r, m = some r → w.heap.size ≤ r ∧ r < w2.heap.size := by
      rintro r rfl
      rcases hT with h | ⟨r', es, c, e1, e2, e3, _⟩
      · cases h.1
      · cases e1; exact ⟨e2.1, (Array.getElem?_eq_some_iff.1 e3).1⟩
    refine wp_sched (fun w' => Chg (fun j => j = w.heap.size ∨ some j = m) w4 w') [(true, 0), (true, 1), (true, 2), (true, 3), (false, 4), (false, 5)] follows_any (by kernel_rfl) (by kernel_rfl) (Chg.drew _ _) ?_
    have hbS : ∀ w', Chg (fun j => j = w.heap.size ∨ some j = m) w4 w' → Blk w' w2.heap.size [.int .u32 x.1, .slice ob x.2.length cb] 37 := fun w' h => hb4.chg h (by
      rintro (e | e)
      · omega
      · have := (hmr _ e.symm).2; omega)
    refine ws_fieldAddr (b := w2.heap.size) (o := 0) (off := 0) (n := 1) (by kernel_rfl) rfl (by simp [evb, kb, hN, sdb]) ?_
    refine ws_load (b := w2.heap.size) (o := 0 + 0) (v := .int .u32 x.1) (by kernel_rfl) rfl (by simp [evb, kb, hN, sdb]) hbS rfl ?_
    refine ws_fieldAddr (b := w2.heap.size) (o := 0) (off := 1) (n := 1) (by kernel_rfl) rfl (by simp [evb, kb, hN, sdb]) ?_
    refine ws_load (b := w2.heap.size) (o := 0 + 1) (v := .slice ob x.2.length cb) (by kernel_rfl) rfl (by simp [evb, kb, hN, sdb]) hbS rfl ?_
    have hx5 : zad w4.drew G ob x.2 := hx4.stay ⟨fun k hk hg => ⟨(hc04.trans (Chg.drew (fun _ => False) _) fun _ _ h => h.elim).block k hk (by have := hG k hg; omega), hg⟩⟩
    refine ws_step rfl fun K hK => ?_
    refine wl_append (c := cb) (e := eB) (base := w4.heap.size) (G := G) bT (by simp only [evb, kb, hN, seval]) (by simp only [evb, kb, hN, seval]) (Own.nil _ _ _) hx5 (by simp only [List.length_nil, LIM]; omega) (by simp) fun v8 w8 h8 => ?_
    have hc48 : Chg (fun _ => False) w4 w8 := (Chg.drew (fun _ => False) w4).trans h8.chg fun k _ h => by cases h
    refine zab (hK _ _ (hc48.mono fun _ _ h => h.elim) ?_)
    clear hK K
    obtain ⟨o8, c8, rfl, hcb8, hob8⟩ := h8.own.bytes
    rw [List.nil_append] at hcb8 hob8
    rw [List.nil_append]
    have hs48 := hc48.size
    refine ws_call (fun args w => Try.call13 args w) rfl (by
      simp only [List.map_toArray, List.map_cons, List.map_nil, evb, kb, hN, seval, g5]
      exact Set_c (G := fun k => w.heap.size ≤ k ∧ k ≠ w.heap.size) (cap := c8) (hbT4.chg hc48 fun h => h) rfl (hT4.stay (Stay.of hc48 (G := fun k => w.heap.size ≤ k ∧ k ≠ w.heap.size) fun _ _ _ h => h)) hx2 (hob8.stay ⟨fun k hk hg => ⟨rfl, by have := (own_ge h8.own k hg).1; omega⟩⟩) (fun h => h.2 rfl) (fun j hj => by omega)) ?_
    rintro _ w9 ⟨m', hb9, hT9, hc9, _⟩
    have e9 : zan [Value.map m] 0 [Value.map m'] = [.map m'] := by simp [zan]
    rw [e9] at hb9
    refine ⟨(hc48.mono (Y := fun j => j = w.heap.size ∨ some j = m) fun _ _ h => h.elim).trans hc9 fun _ _ h => h, ?_⟩
    refine ws_nil ⟨⟨m', by simp only [zai, hN], by simp only [zaa, hD], by simp only [evb, kb, hN, seval, g5], by simp only [evb, kb, hN, seval, g8], hb9, ?_, ?_, ?_, ?_⟩, by simp only [evb, kb, hN, seval, g9], by simp only [evb, kb, hN, seval, g10]⟩
    · rw [List.take_succ, hx, Option.toList_some, setAll_snoc]; exact hT9
    · rw [List.take_succ, hx, Option.toList_some, setAll_snoc]
      have := tagSet_length (setAll (l.take i)) x.1 x.2
      omega
    · rw [List.take_succ, hx, Option.toList_some, setAll_snoc]
      intro y hy
      rcases tagSet_mem _ _ _ y hy with rfl | hy
      · exact ⟨hx2, hxl⟩
      · exact hTe y hy
    · refine (hc04.trans hc48 fun _ _ h => h.elim).trans hc9 fun k _ h => ?_
      rcases h with h | h
      · omega
      · exact (hmr k h.symm).1
  · clear hN hD h0
    rintro a1 w2 ⟨m, hN, hD, g5, g8, hbT, hT, hTl, hTe, hc2⟩
    refine hK _ _ ?_
    clear hK K
    rw [List.take_length] at hT hTl hTe
    generalize setAll l = tg at hT hTl hTe
    have hs2 := hc2.size
    have hlT : (zam tg).length ≤ 100500 := by
      have h1 := encTags_le 2000 (zah tg) fun x hx => (hTe x ((mem_tagSort tg x).1 hx)).2
      rw [tagSort_len] at h1
      have h2 : tg.length * (2000 + 10) ≤ 50 * (2000 + 10) := Nat.mul_le_mul_right _ (by omega)
      unfold zam; omega
    refine wp_seq_k fun K hK => ?_
    refine wp_sched (fun w' => Chg (fun _ => False) w2 w') [(true, 1), (false, 0), (false, 2), (false, 3), (true, 4), (true, 5), (true, 6)] follows_any (by kernel_rfl) (by kernel_rfl) (Chg.drew _ _) ?_
    refine ws_loadAgg (b := w.heap.size) (o := 0) (n := 1) (l := [.map m]) (by kernel_rfl) (by kernel_rfl) rfl (by simp [evb, kb, hN, g5, sdb]) (fun w' h => hbT.chg h fun h => h) (by simp) ?_
    have hd := Chg.drew (fun _ => False) w2
    refine ws_call (fun args w => Try.call14 args w) rfl (by
      simp only [List.map_toArray, List.map_cons, List.map_nil, evb, kb, hN, seval, g5]
      exact TagsLen_c (hbT.chg hd fun h => h) rfl (hT.stay (Stay.of hd (G := fun k => w.heap.size ≤ k ∧ k ≠ w.heap.size) fun _ _ _ h => h))) ?_
    rintro _ _ ⟨rfl, rfl⟩
    refine ⟨hd, ?_⟩
    refine ws_call (fun args w => Try.call15 args w) rfl (by
      simp only [List.map_toArray, List.map_cons, List.map_nil, evb, kb, hN, seval]
      exact tagged_c (G := fun k => (w.heap.size ≤ k ∧ k ≠ w.heap.size) ∧ k < w2.heap.size) (tags := tg) (hT.stay ⟨fun k hk hg => ⟨rfl, hg, hk⟩⟩) (fun k hk => hk.2) (by omega) (fun x hx => by have := (hTe x hx).2; unfold LIM; omega)) ?_
    rintro each w5 ⟨hE, hc5⟩
    have hc25 := hd.trans hc5 fun _ _ h => h
    have hs5 := hc25.size
    refine ⟨hc25, ?_⟩
    refine ws_call (fun args w => Try.call16 args w) rfl (by
      simp only [List.map_toArray, List.map_cons, List.map_nil, evb, kb, hN, seval, g5]
      exact TagsEach_c (base := w5.heap.size) (tags := tg) (bs := []) trivial (hbT.chg hc25 fun h => h) rfl (hT.stay ⟨fun k hk hg => ⟨hc25.block k hk (fun h => h), by omega⟩⟩) (hbT.chg hc25 fun h => h).lt (Own.nil _ _ _) (by simp only [List.length_nil, LIM]; omega) (Nat.le_refl _)) ?_
    intro v6 w6 h6
    have hc56 : Chg (fun _ => False) w5 w6 := h6.chg.mono fun k _ h => by cases h
    have hc26 := hc25.trans hc56 fun _ _ h => h
    refine ⟨hc26, ?_⟩
    refine ws_assign rfl ?_
    refine ws_assign rfl ?_
    refine ws_assign rfl ?_
    refine ws_nil ?_
    refine hK _ _ ?_
    clear hK K
    obtain ⟨ow, cw, rfl, _, hbo⟩ := h6.own.bytes
    rw [List.nil_append] at hbo
    rw [List.nil_append]
    refine wp_ret ⟨by simp [zaa, hD], tg, ⟨by omega, hTe, hT.nodup⟩, each, ow, cw, by simp only [evb, kb, hN, seval], ?_, ?_, chg_own (hc2.trans hc26 fun _ _ h => h.elim)⟩
    · exact hE.stay ⟨fun k hk hg => ⟨hc56.block k hk (fun h => h), by have := hs2; simp at hg; omega⟩⟩
    · exact hbo.stay ⟨fun k hk hg => ⟨rfl, by have := (own_ge h6.own k hg).1; omega⟩⟩
end Go.Proofs.Ytbbocmkcciemdaa
namespace Go.Proofs.Ytbbocmkcciemdaa
set_option linter.all false
open Go.RowKit
set_option maxRecDepth 10000
set_option maxHeartbeats 4000000
def Octs (w : World) (v : Value) (l : Bs) (w' : World) : Prop := Own eB w' w.heap.size v l ∧ Chg (fun _ => False) w w'
theorem uvar_small {n : Nat} (h : n ≤ 127) : uvar n = [byte n] := by
  have e : UInt8.ofNat n = byte n := by unfold byte; congr 1; omega
  unfold uvar
  simp only [uvarAux]; rw [if_pos (by omega), e]
theorem Uvarint_small (n : Nat) (hn : n ≤ 127) {w : World} : zao Try.prog 8 #[.int .u64 n] w fun v w' => Octs w v (uvar n) w' := by
  refine zar Try.func8 rfl rfl Try.ntmps8 (by simp) ?_
  intro a hN hD ha
  have h0 : get a 0 = .int .u64 n := ha 0 _ rfl
  refine wp_seq_k fun K hK => ?_; refine zac ?_; (repeat (first | ((with_reducible refine wl_q ?_ ?_ ?_ ?_); (· exact rfl); (· simp [evb, kb, hN, dyb, sdb] <;> omega); (· kernel_rfl); try simp only [evb, kb, hN, seval, pvb]) | ((with_reducible refine zaf ?_ ?_ ?_); rotate_left 1; (· simp [evb, kb, hN, sdb]); rotate_left 1; (· kernel_rfl); try simp only [evb, kb, hN, seval, pvb]))); refine zab ?_; refine hK _ _ ?_; clear hK K
  refine wp_seq_k fun K hK => ?_; refine zac ?_; (repeat (first | ((with_reducible refine wl_q ?_ ?_ ?_ ?_); (· exact rfl); (· simp [evb, kb, hN, dyb, sdb] <;> omega); (· kernel_rfl); try simp only [evb, kb, hN, seval, pvb]) | ((with_reducible refine zaf ?_ ?_ ?_); rotate_left 1; (· simp [evb, kb, hN, sdb]); rotate_left 1; (· kernel_rfl); try simp only [evb, kb, hN, seval, pvb]))); refine zab ?_; refine hK _ _ ?_; clear hK K
  refine wp_seq_k fun K0 hK0 => ?_
  refine wp_block ?_
  refine wp_loop (fun a' w' => a'.tmps.size = 20 ∧ a'.defers = [] ∧ get a' 0 = .int .u64 n ∧ get a' 3 = .slice none 0 0 ∧ w' = w) (fun a' _ => 0) ⟨by simp only [evb, kb, hN, seval], by simp [zaa, hD], by simp only [evb, kb, hN, seval, h0], by simp only [evb, kb, hN, seval], rfl⟩ ?_
  clear hN hD
  rintro a1 w1 ⟨hN, hD, g0, g3, rfl⟩
  refine wp_seq_k fun K1 hK1 => ?_; refine wp_seq_k fun K2 hK2 => ?_; refine zac ?_; (repeat (first | ((with_reducible refine wl_q ?_ ?_ ?_ ?_); (· exact rfl); (· simp [evb, kb, hN, g0, dyb, sdb] <;> omega); (· kernel_rfl); try simp only [evb, kb, hN, seval, pvb, g0]) | ((with_reducible refine zaf ?_ ?_ ?_); rotate_left 1; (· simp [evb, kb, hN, g0, sdb]); rotate_left 1; (· kernel_rfl); try simp only [evb, kb, hN, seval, pvb, g0])))
  have e1 : decide ((127 : Int) < (n : Int)) = false := decide_eq_false (by omega)
  rw [e1]
  refine zab ?_
  refine hK2 _ _ ?_; try clear hK2 K2
  refine wp_cond_false (by simp [evb, kb, hN, sdb]) ?_
  refine wp_exit ?_
  simp only [Exit.then, Exit.inBlock, if_pos]
  refine hK0 _ _ ?_; try clear hK0 K0
  refine wp_seq_k fun K hK => ?_; refine zac ?_; (repeat (first | ((with_reducible refine wl_q ?_ ?_ ?_ ?_); (· exact rfl); (· simp [evb, kb, hN, g0, dyb, sdb] <;> omega); (· kernel_rfl); try simp only [evb, kb, hN, seval, pvb, g0]) | ((with_reducible refine zaf ?_ ?_ ?_); rotate_left 1; (· simp [evb, kb, hN, g0, sdb]); rotate_left 1; (· kernel_rfl); try simp only [evb, kb, hN, seval, pvb, g0])))
  rw [bv]
  refine wl_appLit [byte n] (by simp [evb, kb, hN, sdb]) rfl (by simp) (x := .tmp 15) (v := .slice none 0 0) (base := w1.heap.size) (bs := []) (by simp [evb, kb, hN, g3, sdb]) (by simp [evb, kb, hN, sdb]) (Own.nil _ _ _) (by simp [LIM]) (Nat.le_refl _) ?_
  intro v' w2 happ
  refine wl_assign ?_
  simp only [evb, kb, hN, seval]
  refine zab ?_; refine hK _ _ ?_; clear hK K
  refine wp_ret ⟨by simp [zaa, hD], ?_⟩; simp only [evb, kb, hN, seval]
  rw [uvar_small hn]
  exact ⟨happ.own, happ.chg.mono fun k _ h => by cases h⟩
theorem fresh_on {w w' : World} {G : Nat → Prop} {X : Nat → Prop} (c : Chg X w w') (h : ∀ k, w.heap.size ≤ k → G k) : ∀ k, w'.heap.size ≤ k → G k := fun k hk => h k (by have := c.size; omega)
abbrev tRp : TypeId := 46
theorem hiU (p : Value) (w : World) : (invoke (.fn (.method "Uvarint") #[]) (#[.iface tRp p] ++ ([] : List Value).toArray)).run Try.prog w = .ok (.enter 76 (p :: ([] : List Value)).toArray) w := by kernel_rfl
theorem hiS (n : Nat) (p : Value) (w : World) : (invoke (.fn (.method "Span") #[]) (#[.iface tRp p] ++ ([.int .i64 n] : List Value).toArray)).run Try.prog w = .ok (.enter 74 (p :: ([.int .i64 n] : List Value)).toArray) w := by kernel_rfl
section
variable {ops : Array Oper} {Q : Exit → Act → World → Prop} {a : Act} {w : World} {rest : List Oper} {d : Option Nat} {ty : TypeId} {pos : String} {af : Array Edge} {ts : Array TypeId}
theorem wl_rdI {α : Type} {f : FuncId} {m : String} {x : Operand} {xs : Array Operand} {args : List Value} {sem : Bs → Option (α × Bs)} {out : World → World → (Nat → Prop) → α → Value → Prop} {G : Nat → Prop} {R : Nat} {st : Option Bs}
    (hi : ∀ p w, (invoke (.fn (.method m) #[]) (#[.iface tRp p] ++ args.toArray)).run Try.prog w = .ok (.enter f (p :: args).toArray) w) (hc : RdF f args sem out) (hx : a.eval x = .iface tRp (.pointer (some ⟨R, 0, none⟩))) (hy : xs.map a.eval = args.toArray) (hS : RdS w G R st) (hR : ¬ G R) (hG : ∀ k, w.heap.size ≤ k → G k)
    (h : ∀ v w', Reads w G R st sem out v w' → WL Try.prog ops Q rest (a.put d v) w') :
    WL Try.prog ops Q (⟨d, .call { callee := .invoke x m, args := xs, argTypes := ts }, ty, pos, af, none⟩ :: rest) a w :=
  wl_enter rfl (by simp only [execOp, resolve, Sem.run_bind, Sem.run_pure, Result.andThen, hx, hy]; exact hi _ w) (hc w G R st hS hR hG) h
end
theorem ReadTags_c {w : World} {G : Nat → Prop} {R : Nat} {st : Option Bs} (hS : RdS w G R st) (hR : ¬ G R) (hf : ∀ k, w.heap.size ≤ k → G k) : zao Try.prog 17 #[.iface tRp (.pointer (some ⟨R, 0, none⟩))] w (Reads w G R st rTags outTg) := by
  refine callsR_ofC Try.func17 rfl rfl (by kernel_rfl) Try.ntmps17 (by simp) ?_
  intro a hN hD ha
  have h0 : get a 0 = .iface tRp (.pointer (some ⟨R, 0, none⟩)) := ha 0 _ rfl
  have hltR := hS.lt
  refine wp_seq_k fun K hK => ?_; refine zac ?_
  refine wl_allocA (z := aggOf [.map none]) (fun w => Try.zeroValue41 w) fun w1 hc1 hb1 hs1 => ?_
  refine zab ?_; refine hK _ _ ?_; clear hK K
  refine wp_seq_k fun K hK => ?_; refine zac ?_
  refine wl_allocA (z := aggOf [.map none]) (fun w => Try.zeroValue41 w) fun w2 hc2 hb2 hs2 => ?_
  refine zab ?_; refine hK _ _ ?_; clear hK K
  have hs12 : w2.heap.size = w.heap.size + 2 := by omega
  have hc12 : Chg (fun _ => False) w w2 := hc1.trans hc2 fun _ _ h => h
  obtain ⟨G', hG'⟩ : ∃ G' : Nat → Prop, G' = fun k => G k ∧ k ≠ w.heap.size ∧ k ≠ w1.heap.size := ⟨_, rfl⟩
  have hS2 : RdS w2 G' R st := hS.stay ⟨fun k hk hg => ⟨hc12.block k hk fun h => h, by rw [hG']; exact ⟨hg, by omega, by omega⟩⟩⟩ (hc12.block R hltR fun h => h)
  have hR' : ¬ G' R := by rw [hG']; exact fun h => hR h.1
  have hf' : ∀ k, w2.heap.size ≤ k → G' k := fun k hk => by rw [hG']; exact ⟨hf k (by omega), by omega, by omega⟩
  have hB3 : ¬ G' w1.heap.size := by rw [hG']; exact fun h => h.2.2 rfl
  have hB2 : Blk w2 w.heap.size [.map none] tT := hb1.chg hc2 fun h => h
  have hB3b : Blk w2 w1.heap.size [.map none] tT := hb2
  refine wp_seq_k fun K9 hK9 => ?_; refine wp_seq_k fun K0 hK0 => ?_; refine zac ?_
  (repeat ((with_reducible refine zaj ?_ ?_ ?_); (· simp [evb, pvb, rnb, kb, hN, h0, dyb, sdb] <;> omega); (· kernel_rfl); try simp only [evb, pvb, rnb, kb, hN, seval, h0]))
  refine wl_rdI hiU Uvarint_m (by simp only [evb, pvb, rnb, kb, hN, seval, h0]) (by simp) hS2 hR' hf' ?_
  intro v3 w3 hr3
  obtain ⟨n, ⟨rfl, hn⟩, k3⟩ := hr3.val
  (repeat ((with_reducible refine zaj ?_ ?_ ?_); (· simp [evb, pvb, rnb, kb, hN, dyb, sdb] <;> omega); (· kernel_rfl); try simp only [evb, pvb, rnb, kb, hN, seval]))
  refine zab ?_
  refine hK0 _ _ ?_; try clear hK0 K0
  obtain ⟨a3, ha3⟩ : ∃ a3, a3 = (((((a.put (some 2) (.pointer (some ⟨w.heap.size, 0, none⟩))).put (some 3) (.pointer (some ⟨w1.heap.size, 0, none⟩))).put (some 7) (.iface tRp (.pointer (some ⟨R, 0, none⟩)))).put (some 8) (.int .u32 n)).put (some 4) (.int .u32 n)) := ⟨_, rfl⟩
  rw [← ha3]
  have hN3 : a3.tmps.size = 24 := by rw [ha3]; simp only [zai]; exact hN
  have hD3 : a3.defers = [] := by rw [ha3]; simp only [zaa]; exact hD
  have g30 : get a3 0 = .iface tRp (.pointer (some ⟨R, 0, none⟩)) := by rw [ha3]; simp only [evb, pvb, rnb, kb, hN, seval, h0]
  have g32 : get a3 2 = .pointer (some ⟨w.heap.size, 0, none⟩) := by rw [ha3]; simp only [evb, pvb, rnb, kb, hN, seval]
  have g33 : get a3 3 = .pointer (some ⟨w1.heap.size, 0, none⟩) := by rw [ha3]; simp only [evb, pvb, rnb, kb, hN, seval]
  have g34 : get a3 4 = .int .u32 n := by rw [ha3]; simp only [evb, pvb, rnb, kb, hN, seval]
  clear ha3
  have hall3 : Chg (fun k => k = R) w w3 := (hc12.mono (Y := fun k => k = R) fun _ _ h => h.elim).trans hr3.chg fun _ _ h => h
  have htot : st.bind rTags = ((st.bind rUvar).map (·.2)).bind (rTagsN n []) := by
    cases st with
    | none => rfl
    | some bs =>
      simp only [Option.bind_some] at k3 ⊢
      unfold rTags
      cases hh : rUvar bs with
      | none => rfl
      | some y => simp only [Option.bind_some, Option.map_some]; rw [k3 y hh]
  refine wp_block ?_
  refine wp_loop (fun a' w' => ∃ (j : Nat) (tg : zat) (m : Option Nat) (sc : Option Bs), get a' 4 = .int .u32 j ∧ j < 4294967296 ∧ Keeps (fun t => t = 0 ∨ t = 2 ∨ t = 3) a3 a' ∧ Chg (fun k => k = R) w w' ∧ Blk w' w.heap.size [.map none] tT ∧ Blk w' w1.heap.size [.map m] tT ∧
      TagsAt w' G' m tg ∧ RdS w' G' R sc ∧ w2.heap.size ≤ w'.heap.size ∧ (∀ r, m = some r → w2.heap.size ≤ r) ∧ st.bind rTags = sc.bind (rTagsN j tg)) (fun a' _ => (intOf (get a' 4)).toNat) ?_ ?_
  · exact ⟨n, [], none, _, g34, hn, Keeps.refl _ _, hall3, hB2.chg hr3.chg (by omega), hB3b.chg hr3.chg (by omega), .inl ⟨rfl, rfl⟩, hr3.rd, hr3.chg.size, (fun r h => by cases h), htot⟩
  rintro a4 w4 ⟨j, tg, m, sc, gj, hj, hk4, hc4, hb42, hb43, htg, hS4, hsz4, hmn, htot4⟩
  have hN : a4.tmps.size = 24 := hk4.size.trans hN3
  have hD4 : a4.defers = [] := hk4.defers.trans hD3
  have g40 := (hk4.slot 0 (.inl rfl)).trans g30
  have g42 := (hk4.slot 2 (.inr (.inl rfl))).trans g32
  have g43 := (hk4.slot 3 (.inr (.inr rfl))).trans g33
  refine wp_seq_k fun K hK => ?_; refine wp_seq_k fun K0 hK0 => ?_; refine zac ?_; (repeat ((with_reducible refine zaj ?_ ?_ ?_); (· simp [evb, pvb, rnb, kb, hN, gj, dyb, sdb] <;> omega); (· kernel_rfl); try simp only [evb, pvb, rnb, kb, hN, seval, gj])); refine zab ?_; refine hK0 _ _ ?_; try clear hK0 K0
  by_cases hz : j = 0
  · subst hz
    have e1 : decide ((0 : Int) < ((0 : Nat) : Int)) = false := rfl
    refine wp_cond_false (by simp only [evb, pvb, rnb, kb, hN, seval] <;> rfl) ?_
    refine wp_exit ?_
    simp only [Exit.then, Exit.inBlock, if_pos]
    refine hK9 _ _ ?_
    clear hK K
    refine wp_seq_k fun K hK => ?_; refine zac ?_
    refine wl_loadAgg (b := w1.heap.size) (o := 0) (n := 1) (by kernel_rfl) (by kernel_rfl) (by simp only [evb, pvb, rnb, kb, hN, seval, g43]) hb43 (by simp) ?_
    refine wl_storeAll (b := w.heap.size) (n := 1) (l' := [.map m]) (by kernel_rfl) (by simp only [evb, pvb, rnb, kb, hN, seval, g42]) (by simp only [evb, pvb, rnb, kb, hN, seval] <;> rfl) hb42 rfl (by intro y hy; simp only [List.mem_singleton] at hy; subst hy; rfl) rfl fun w5 hb5 hc5 => ?_
    refine zab ?_; refine hK _ _ ?_; clear hK K
    have st5 : Stay w4 w5 G' G := ⟨fun k hk hg => by
      rw [hG'] at hg
      exact ⟨hc5.block k hk hg.2.1, hg.1⟩⟩
    refine wp_ret ⟨by simp [zaa, hD4], w.heap.size, _, _, by simp only [evb, pvb, rnb, kb, hN, seval, g42], hb5, by kernel_rfl, ?_⟩
    have e2 : st.bind rTags = sc.map fun bs => (tg, bs) := by rw [htot4]; cases sc <;> rfl
    refine ⟨hc4.trans (hc5.mono (Y := fun k => k = w.heap.size) fun _ _ h => h) fun k hk h => by omega, ?_, tg, ⟨m, rfl, htg.stay st5⟩, fun y hy => ?_⟩
    · rw [e2, Option.map_map]
      have e3 : sc.map ((·.2) ∘ fun bs => (tg, bs)) = sc := by cases sc <;> rfl
      rw [e3]
      exact hS4.stay st5 (hc5.block R hS4.lt (by omega))
    · rw [e2] at hy
      cases sc with
      | none => cases hy
      | some bs => simp only [Option.map_some, Option.some.injEq] at hy; rw [← hy]
  · have e1 : decide ((0 : Int) < (j : Int)) = true := decide_eq_true (by omega)
    refine wp_cond_true (by simp only [evb, pvb, rnb, kb, hN, seval, e1]) ?_
    refine wp_skip (hK _ _ ?_)
    clear hK K
    have hf4 : ∀ k, w4.heap.size ≤ k → G' k := fun k hk => hf' k (by omega)
    refine wp_seq_k fun K hK => ?_
    refine wp_block ?_
    refine wp_seq_k fun K0 hK0 => ?_; refine zac ?_; (repeat ((with_reducible refine zaj ?_ ?_ ?_); (· simp [evb, pvb, rnb, kb, hN, g40, dyb, sdb] <;> omega); (· kernel_rfl); try simp only [evb, pvb, rnb, kb, hN, seval, g40]))
    refine wl_rdI hiU Uvarint_m (by simp only [evb, pvb, rnb, kb, hN, seval, g40]) (by simp) hS4 hR' hf4 ?_
    intro v5 w5 hr5
    obtain ⟨x1, ⟨rfl, hx1⟩, k5⟩ := hr5.val
    (repeat ((with_reducible refine zaj ?_ ?_ ?_); (· simp [evb, pvb, rnb, kb, hN, g40, dyb, sdb] <;> omega); (· kernel_rfl); try simp only [evb, pvb, rnb, kb, hN, seval, g40]))
    refine wl_rdI hiU Uvarint_m (by simp only [evb, pvb, rnb, kb, hN, seval, g40]) (by simp) hr5.rd hR' (fresh_on hr5.chg hf4) ?_
    intro v6 w6 hr6
    obtain ⟨x2, ⟨rfl, hx2⟩, k6⟩ := hr6.val
    (repeat ((with_reducible refine zaj ?_ ?_ ?_); (· simp [evb, pvb, rnb, kb, hN, dyb, sdb] <;> omega); (· kernel_rfl); try simp only [evb, pvb, rnb, kb, hN, seval]))
    refine zab ?_
    refine hK0 _ _ ?_; try clear hK0 K0
    refine zac ?_; (repeat ((with_reducible refine zaj ?_ ?_ ?_); (· simp [evb, pvb, rnb, kb, hN, g40, i64_sm (x2 : Int) (by omega), dyb, sdb] <;> omega); (· kernel_rfl); try simp only [evb, pvb, rnb, kb, hN, seval, g40, i64_sm (x2 : Int) (by omega)]))
    refine wl_rdI (hiS x2) (Span_c x2) (by simp only [evb, pvb, rnb, kb, hN, seval, g40]) (by simp only [List.map_toArray, List.map_cons, List.map_nil]; simp only [evb, pvb, rnb, kb, hN, seval]) hr6.rd hR' (fresh_on hr6.chg (fresh_on hr5.chg hf4)) ?_
    intro v7 w7 hr7
    obtain ⟨l, ⟨oa, cap, rfl, _, hbl⟩, k7⟩ := hr7.val
    have hc47 : Chg (fun k => k = R) w4 w7 := (hr5.chg.trans hr6.chg fun _ _ h => h).trans hr7.chg fun _ _ h => h
    have hX : ∀ k, G' k → k < w4.heap.size → ¬ k = R := fun k hk _ e => hR' (e ▸ hk)
    refine zau (fun args w => Try.call13 args w) (by
      simp only [List.map_toArray, List.map_cons, List.map_nil]; simp only [evb, pvb, rnb, kb, hN, seval, g43]
      exact Set_c (hb43.chg hc47 (by omega)) rfl (htg.stay (Stay.of hc47 hX)) hx1 hbl hB3 (fresh_on hc47 hf4)) ?_
    rintro _ w8 ⟨m', hb8, ht8, hc8, hm8⟩
    refine zab ?_
    refine hK _ _ ?_
    clear hK K
    have e32 : IntKind.u32.wrap ((j : Int) - 1) = ((j - 1 : Nat) : Int) := by
      have : (j : Int) - 1 = ((j - 1 : Nat) : Int) := by omega
      rw [this]; exact wrapU rfl (by show _ < 4294967296; omega)
    have hN8 : ∀ a' : Act, a'.tmps.size = 24 → a'.tmps.size = 24 := fun _ h => h
    refine zac ?_; (repeat ((with_reducible refine zaj ?_ ?_ ?_); (· simp [evb, pvb, rnb, kb, hN, gj, e32, dyb, sdb] <;> omega); (· kernel_rfl); try simp only [evb, pvb, rnb, kb, hN, seval, gj, e32]))
    refine zab ?_
    have hmm : ∀ k, some k = m → G' k := by
      intro k hk
      rcases htg with h | ⟨r', es, c, e1', e2', _⟩
      · rw [h.1] at hk; cases hk
      · rw [e1'] at hk; cases hk; exact e2'
    have hne8 : ∀ k, k < w.heap.size + 2 → ¬ (k = w1.heap.size ∨ some k = m) ∨ k = w1.heap.size ∨ G' k := fun k _ => by
      by_cases h : k = w1.heap.size
      · exact .inr (.inl h)
      · by_cases h2 : some k = m
        · exact .inr (.inr (hmm k h2))
        · exact .inl (by rintro (h3 | h3); exact h h3; exact h2 h3)
    have hb82 : Blk w8 w.heap.size [.map none] tT := (hb42.chg hc47 (by omega)).chg hc8 (by
      rintro (h | h)
      · omega
      · have := hmm _ h
        rw [hG'] at this
        exact this.2.1 rfl)
    have hR8 : ¬ (R = w1.heap.size ∨ some R = m) := by
      rintro (h | h)
      · omega
      · exact hR' (hmm _ h)
    have hS8 : RdS w8 G' R (((((sc.bind rUvar).map (·.2)).bind rUvar).map (·.2)).bind (rSpan x2) |>.map (·.2)) := by
      have h7 := hr7.rd
      cases hh : ((((sc.bind rUvar).map (·.2)).bind rUvar).map (·.2)).bind (rSpan x2) |>.map (·.2) with
      | none => rw [hh] at h7; exact (hc8.block R h7.lt hR8).trans h7
      | some bs =>
        rw [hh] at h7
        obtain ⟨oa', cap', q1, q2, q3⟩ := h7
        refine ⟨oa', cap', (hc8.block R q1.lt hR8).trans q1, q2, ?_⟩
        rcases q3 with q3 | ⟨b, o, l', T', p1, p2, p3, p4⟩
        · exact .inl q3
        · refine .inr ⟨b, o, l', T', p1, p2, p3.chg hc8 ?_, p4⟩
          rintro (h | h)
          · rw [hG'] at p2; exact p2.2.2 h
          · rcases htg with h' | ⟨r', es, c, e1', e2', e3', _⟩
            · rw [h'.1] at h; cases h
            · rw [e1'] at h
              cases h
              have hlt4 : b < w4.heap.size := (Array.getElem?_eq_some_iff.1 e3').1
              have := hc47.block b hlt4 (hX b e2' hlt4)
              obtain ⟨fz3, p3⟩ := p3
              rw [this, e3'] at p3
              cases p3
    have hgrow := hc47.size
    have hgrow8 := hc8.size
    refine ⟨⟨j - 1, tagSet tg x1 l, m', _, by simp only [evb, pvb, rnb, kb, hN, seval], by omega, ?_, (hc4.trans hc47 fun _ _ h => h).trans hc8 fun k hk h => ?_, hb82, hb8, ht8, hS8, by omega, fun r hr => ?_, ?_⟩, ?_⟩
    · refine hk4.trans ?_
      repeat (refine Keeps.put ?_ (by omega) _)
      exact Keeps.refl _ _
    · rcases h with h | h
      · omega
      · have := hmn k h.symm
        omega
    · rcases hm8 with h | ⟨r', h, h2⟩
      · exact hmn r (h ▸ hr)
      · rw [hr] at h; cases h; omega
    · rw [htot4]
      obtain ⟨i, rfl⟩ : ∃ i, j = i + 1 := ⟨j - 1, by omega⟩
      rw [Nat.add_sub_cancel]
      cases sc with
      | none => rfl
      | some bs =>
        simp only [Option.bind_some] at k5 k6 k7 ⊢
        rw [rTagsN]
        unfold rTag
        cases h1 : rUvar bs with
        | none => rfl
        | some y1 =>
          rw [h1] at k6 k7
          simp only [Option.map_some, Option.bind_some] at k6 k7 ⊢
          cases h2 : rUvar y1.2 with
          | none => rfl
          | some y2 =>
            rw [h2] at k7
            simp only [Option.map_some, Option.bind_some] at k7 ⊢
            rw [← k6 y2 h2]
            cases h3 : rSpan (x2 : Int) y2.2 with
            | none => rfl
            | some y3 =>
              simp only [Option.map_some, Option.bind_some]
              rw [k5 y1 h1, k7 y3 h3]
    · simp only [evb, pvb, rnb, kb, hN, seval]
      simp only [intOf]
      omega
theorem Ok_c {w : World} {R : Nat} {v : Value} {b : Bool} {T : TypeId} (hb : Blk w R [v, .bool b] T) : zao Try.prog 18 #[.pointer (some ⟨R, 0, none⟩)] w fun r w' => r = .bool (!b) ∧ w' = w := by
  refine zar Try.func18 rfl rfl Try.ntmps18 (by simp) ?_
  intro a hN hD ha
  have h0 : get a 0 = .pointer (some ⟨R, 0, none⟩) := ha 0 _ rfl
  have l1 := hb.ld (i := 1) rfl
  have fo : fOff Try.prog 48 1 = 1 := by kernel_rfl
  refine wp_seq_k fun K hK => ?_; refine zac ?_; (repeat ((with_reducible refine zaj ?_ ?_ ?_); (· simp [evb, pvb, rnb, kb, hN, dyb, sdb] <;> omega); (· kernel_rfl); try simp only [evb, pvb, rnb, kb, hN, seval])); refine zab ?_; refine hK _ _ ?_; clear hK K
  refine wp_seq_k fun K hK => ?_; refine zac ?_; (repeat ((with_reducible refine zaj ?_ ?_ ?_); (· simp [evb, pvb, rnb, kb, hN, h0, l1, fo, dyb, sdb] <;> omega); (· kernel_rfl); try simp only [evb, pvb, rnb, kb, hN, seval, h0, l1, fo])); refine zab ?_; refine hK _ _ ?_; clear hK K; refine wp_ret ⟨by simp [zaa, hD], ?_⟩; simp only [evb, kb, hN, seval]
  exact ⟨by first | rfl | trivial, by first | rfl | trivial⟩
theorem implReadTags_c {w : World} {G : Nat → Prop} {oa : Option Addr} {cap : Nat} {bs : Bs} {T : zat} (hb : zad w G oa bs) (hlim : bs.length ≤ 4000000) (hr : rTags bs = some (T, [])) (hlen : T.length ≤ 1048576) (hv : ∀ x ∈ T, x.2.length ≤ LIM) :
    zao Try.prog 7 #[.slice oa bs.length cap] w fun r w' => ∃ each, r = .tuple #[each, .int .i64 0, .bool true] ∧ TgS w' (fun g => w.heap.size ≤ g) (zah T) each ∧ Chg (fun _ => False) w w' := by
  refine callsR_of3 Try.func7 rfl rfl Try.ntmps7 (by simp) ?_
  intro a hN hD hargs
  have h0 : get a 0 = .slice oa bs.length cap := hargs 0 _ rfl
  clear hargs
  refine wp_seq_k fun K hK => ?_; refine zac ?_; (repeat ((with_reducible refine zaj ?_ ?_ ?_); (· simp [evb, pvb, rnb, kb, hN, dyb, sdb] <;> omega); (· kernel_rfl); try simp only [evb, pvb, rnb, kb, hN, seval])); refine zab ?_; refine hK _ _ ?_; clear hK K
  refine wp_seq_k fun K hK => ?_; refine zac ?_; (iterate 1 ((with_reducible refine zaj ?_ ?_ ?_); (· simp [evb, pvb, rnb, kb, hN, h0, dyb, sdb] <;> omega); (· kernel_rfl); try simp only [evb, pvb, rnb, kb, hN, seval, h0]))
  refine wl_append (c := cap) (e := eB) (base := w.heap.size) (G := G) bT (by simp only [evb, kb, hN, seval]) (by simp only [evb, kb, hN, seval, h0]) (Own.nil _ _ _) hb (by simp only [List.length_nil, LIM]; omega) (Nat.le_refl _) fun v1 w1 h1 => ?_
  rw [List.nil_append] at h1
  have hc1 : Chg (fun _ => False) w w1 := h1.chg.mono fun k _ h => by cases h
  obtain ⟨o1, c1, rfl, hcb1, hob1⟩ := h1.own.bytes
  refine wl_build (l := [.slice o1 bs.length c1, .bool false]) (by simp only [List.map_toArray, List.map_cons, List.map_nil, evb, kb, hN, seval]; kernel_rfl) ?_
  refine wl_boxA (l := [.slice o1 bs.length c1, .bool false]) (by simp [evb, kb, hN, sdb]) fun w2 hc2 hb2 hs2 => ?_
  (repeat ((with_reducible refine zaj ?_ ?_ ?_); (· simp [evb, pvb, rnb, kb, hN, dyb, sdb] <;> omega); (· kernel_rfl); try simp only [evb, pvb, rnb, kb, hN, seval])); refine zab ?_; refine hK _ _ ?_; clear hK K
  have hc02 : Chg (fun _ => False) w w2 := hc1.trans hc2 fun _ _ h => h
  have hs1 := hc1.size
  obtain ⟨R, hRe⟩ : ∃ R, R = w1.heap.size := ⟨_, rfl⟩
  rw [← hRe] at hb2 hs2 ⊢
  obtain ⟨G1, hG1⟩ : ∃ G1 : Nat → Prop, G1 = fun k => w.heap.size ≤ k ∧ k ≠ R := ⟨_, rfl⟩
  have hS : RdS w2 G1 R (some bs) := ⟨o1, c1, hb2, hcb1, hob1.stay ⟨fun k hk hg => ⟨hc2.block k hk fun h => h, by rw [hG1]; have := own_ge h1.own k hg; omega⟩⟩⟩
  refine wp_seq_k fun K hK => ?_; refine zac ?_; (iterate 1 ((with_reducible refine zaj ?_ ?_ ?_); (· simp [evb, pvb, rnb, kb, hN, dyb, sdb] <;> omega); (· kernel_rfl); try simp only [evb, pvb, rnb, kb, hN, seval]))
  refine zak rfl (v := .iface tRp (.pointer (some ⟨R, 0, none⟩))) (w' := w2) (by
    have := run_makeInterface (P := Try.prog) (w := w2) tRp (.pointer (some ⟨R, 0, none⟩)) (by kernel_rfl)
    simp only [execOp, Sem.run_bind, evb, kb, hN, seval, this]; rfl) ?_
  refine zau (fun args w => Try.call17 args w) (by
    simp only [List.map_toArray, List.map_cons, List.map_nil, evb, kb, hN, seval]
    exact ReadTags_c hS (by rw [hG1]; exact fun h => h.2 rfl) (fun k hk => by rw [hG1]; omega)) ?_
  rintro v3 w3 hr3
  obtain ⟨x, ⟨m, rfl, hT⟩, hx⟩ := hr3.val
  have hxe : x = T := hx _ (by rw [Option.bind_some]; exact hr)
  subst hxe
  have hrd : RdS w3 G1 R (some []) := by
    have := hr3.rd
    rw [Option.bind_some, hr] at this
    exact this
  obtain ⟨o3, c3, hb3, _, _⟩ := hrd
  have hc23 : Chg (fun k => k = R) w2 w3 := hr3.chg
  refine wl_allocA (z := aggOf [.map none]) (fun w => Try.zeroValue41 w) fun w4 hc4 hb4 hs4 => ?_
  refine wl_storeAll (b := w3.heap.size) (n := 1) (l' := [.map m]) (by kernel_rfl) (by simp [evb, kb, hN, sdb]) (by simp [evb, kb, hN, sdb] <;> rfl) hb4 rfl (by intro y hy; simp only [List.mem_singleton] at hy; subst hy; rfl) rfl fun w5 hb5 hc5 => ?_
  refine zab ?_; refine hK _ _ ?_; clear hK K
  have hc35 : Chg (fun _ => False) w3 w5 := hc4.trans hc5 fun n hn h => by omega
  have hs3 := hb3.lt
  have hs23 := hc23.size
  have hs35 := hc35.size
  have hb35 := hb3.chg hc35 fun h => h
  have hT5 := hT.stay (Stay.of hc35 (G := G1) fun _ _ _ h => h)
  have hc05 : Chg (fun _ => False) w w5 := chg_own (((hc02.mono (Y := fun k => w.heap.size ≤ k) fun _ _ h => h.elim).trans hc23 fun k _ h => by omega).trans hc35 fun _ _ h => h.elim)
  refine wp_seq_k fun K hK => ?_
  refine wp_sched (fun w' => Chg (fun _ => False) w5 w') [(true, 0), (true, 2), (true, 3), (true, 4), (true, 5), (true, 6), (true, 7), (false, 1), (false, 8), (true, 9), (true, 10), (true, 11)] follows_any (by kernel_rfl) (by kernel_rfl) (Chg.drew _ _) ?_
  have hd := Chg.drew (fun _ => False) w5
  refine ws_loadAgg (b := w3.heap.size) (o := 0) (n := 1) (l := [.map m]) (by kernel_rfl) (by kernel_rfl) rfl (by simp [evb, kb, hN, sdb]) (fun w' h => hb5.chg h fun h => h) (by simp) ?_
  refine ws_move rfl ?_
  refine ws_float (.pointer (some ⟨R, 0, none⟩)) rfl (fun w _ => by simp only [execOp, evb, kb, hN, seval]; rfl) ?_
  refine ws_fieldAddr (b := R) (o := 0) (off := 0) (n := 1) (by kernel_rfl) rfl (by simp [evb, kb, hN, sdb]) ?_
  refine ws_load (b := R) (o := 0 + 0) (v := .slice o3 0 c3) (by kernel_rfl) rfl (by simp [evb, kb, hN, sdb]) (fun w' h => hb35.chg h fun h => h) rfl ?_
  refine ws_float (.int .i64 0) rfl (fun w _ => (run_pure (fun _ => rfl) (by simp [dyb, evb, kb, hN, seval, sdb, isS]) (by kernel_rfl)).trans (by simp [pvb, evb, kb, hN, seval, lenV])) ?_
  refine ws_move rfl ?_
  refine ws_call (fun args w => Try.call15 args w) rfl (by
    simp only [List.map_toArray, List.map_cons, List.map_nil, evb, kb, hN, seval]
    exact tagged_c (m := m) (G := fun k => G1 k ∧ k < w5.heap.size) (tags := x) (hT5.stay ⟨fun k hk hg => ⟨rfl, hg, hk⟩⟩) (fun k hk => hk.2) hlen hv) ?_
  rintro each w6 ⟨hE, hc6⟩
  have hc56 := hd.trans hc6 fun _ _ h => h
  refine ⟨hc56, ?_⟩
  refine ws_call (fun args w => Try.call18 args w) rfl (by
    simp only [List.map_toArray, List.map_cons, List.map_nil, evb, kb, hN, seval]
    exact Ok_c (hb35.chg hc56 fun h => h)) ?_
  rintro _ _ ⟨rfl, rfl⟩
  refine ⟨hc56, ?_⟩
  refine ws_assign rfl ?_
  refine ws_assign rfl ?_
  refine ws_assign rfl ?_
  refine ws_nil ?_
  refine hK _ _ ?_
  clear hK K
  refine wp_ret ⟨by simp [zaa, hD], each, by simp only [evb, kb, hN, seval] <;> rfl, ?_, hc05.trans hc56 fun _ _ h => h⟩
  exact hE.stay ⟨fun k hk hg => ⟨rfl, by have := hc05.size; simp at hg; omega⟩⟩
end Go.Proofs.Ytbbocmkcciemdaa
namespace Go.Proofs.Ytbbocmkcciemdaa
set_option linter.all false
open Go.RowKit
set_option maxRecDepth 10000
set_option maxHeartbeats 4000000
theorem SmallT.w {t : zat} (h : SmallT t) : TagsW t := ⟨fun x hx => ⟨(h.each x hx).1, by have := (h.each x hx).2; omega⟩, h.nd, by have := h.len; omega⟩
theorem rTags_back {t : zat} (h : TagsW t) : rTags (uvar t.length ++ zam t) = some (zah t, []) := by
  have hs := h.sort
  have hl := h.2.2
  unfold rTags
  rw [rUvar_uvar _ (by omega), Option.bind_some]
  have := rTagsN_enc (zah t) [] [] hs.1 (by simpa using hs.2.1)
  rw [tagSort_len] at this
  simpa [zam] using this
theorem walk_tags {w : World} {G : Nat → Prop} {l : zat} {v : Value} (hl : TgS w G l v) (hG : ∀ k, G k → k < w.heap.size) : zao Try.prog 3 #[v] w fun r w' => r = .bool true ∧ Chg (fun _ => False) w w' := by
  refine zar Try.func3 rfl rfl Try.ntmps3 (by simp) ?_
  intro a hN hD hargs
  have h0 : get a 0 = v := hargs 0 _ rfl
  clear hargs
  refine wp_seq_k fun K hK => ?_; refine zac ?_; (repeat ((with_reducible refine zaj ?_ ?_ ?_); (· simp [evb, pvb, rnb, kb, hN, dyb, sdb] <;> omega); (· kernel_rfl); try simp only [evb, pvb, rnb, kb, hN, seval])); refine zab ?_; refine hK _ _ ?_; clear hK K
  refine wp_seq_k fun K hK => ?_; refine wp_seq_k fun K1 hK1 => ?_; refine zac ?_; (iterate 1 ((with_reducible refine zaj ?_ ?_ ?_); (· simp [evb, pvb, rnb, kb, hN, h0, dyb, sdb] <;> omega); (· kernel_rfl); try simp only [evb, pvb, rnb, kb, hN, seval, h0]))
  refine zau (fun args w => Try.call4 args w) (by simp only [List.map_toArray, List.map_cons, List.map_nil, evb, kb, hN, seval]; exact fits5_c hl) ?_
  rintro _ w1 ⟨⟨b1, rfl, hn⟩, hc1⟩
  (repeat ((with_reducible refine zaj ?_ ?_ ?_); (· simp [evb, pvb, rnb, kb, hN, dyb, sdb] <;> omega); (· kernel_rfl); try simp only [evb, pvb, rnb, kb, hN, seval]))
  refine zab ?_; refine hK1 _ _ ?_; try clear hK1 K1
  cases b1 with
  | false =>
    refine wp_cond_true (by simp [evb, kb, hN, sdb]) ?_
    refine wp_seq_k fun K3 hK3 => ?_; refine zac ?_; (repeat ((with_reducible refine zaj ?_ ?_ ?_); (· simp [evb, pvb, rnb, kb, hN, dyb, sdb] <;> omega); (· kernel_rfl); try simp only [evb, pvb, rnb, kb, hN, seval])); refine zab ?_; refine hK3 _ _ ?_; try clear hK3 K3; refine wp_ret ⟨by simp [zaa, hD], ?_⟩; simp only [evb, kb, hN, seval]
    exact ⟨by first | rfl | trivial, hc1⟩
  | true =>
  refine wp_cond_false (by simp [evb, kb, hN, sdb]) ?_
  refine wp_skip (hK _ _ ?_)
  clear hK K
  have hl1 := hl.stay (Stay.of hc1 (G := G) fun _ _ _ h => h)
  refine wp_seq_k fun K hK => ?_; refine wp_seq_k fun K1 hK1 => ?_; refine zac ?_; (iterate 1 ((with_reducible refine zaj ?_ ?_ ?_); (· simp [evb, pvb, rnb, kb, hN, h0, dyb, sdb] <;> omega); (· kernel_rfl); try simp only [evb, pvb, rnb, kb, hN, seval, h0]))
  refine zau (fun args w => Try.call5 args w) (by simp only [List.map_toArray, List.map_cons, List.map_nil, evb, kb, hN, seval]; exact tagsFit_c hl1 (by have := hn rfl; omega)) ?_
  rintro _ w2 ⟨⟨b2, rfl, hfit⟩, hc2⟩
  have hc02 := hc1.trans hc2 fun _ _ h => h
  (repeat ((with_reducible refine zaj ?_ ?_ ?_); (· simp [evb, pvb, rnb, kb, hN, dyb, sdb] <;> omega); (· kernel_rfl); try simp only [evb, pvb, rnb, kb, hN, seval]))
  refine zab ?_; refine hK1 _ _ ?_; try clear hK1 K1
  cases b2 with
  | false =>
    refine wp_cond_true (by simp [evb, kb, hN, sdb]) ?_
    refine wp_seq_k fun K3 hK3 => ?_; refine zac ?_; (repeat ((with_reducible refine zaj ?_ ?_ ?_); (· simp [evb, pvb, rnb, kb, hN, dyb, sdb] <;> omega); (· kernel_rfl); try simp only [evb, pvb, rnb, kb, hN, seval])); refine zab ?_; refine hK3 _ _ ?_; try clear hK3 K3; refine wp_ret ⟨by simp [zaa, hD], ?_⟩; simp only [evb, kb, hN, seval]
    exact ⟨by first | rfl | trivial, hc02⟩
  | true =>
  obtain ⟨h50, hv⟩ := hfit rfl
  refine wp_cond_false (by simp [evb, kb, hN, sdb]) ?_
  refine wp_skip (hK _ _ ?_)
  clear hK K
  have hl2 := hl.stay (Stay.of hc02 (G := G) fun _ _ _ h => h)
  refine wp_seq_k fun K hK => ?_; refine zac ?_; (iterate 1 ((with_reducible refine zaj ?_ ?_ ?_); (· simp [evb, pvb, rnb, kb, hN, h0, dyb, sdb] <;> omega); (· kernel_rfl); try simp only [evb, pvb, rnb, kb, hN, seval, h0]))
  refine zau (fun args w => Try.call6 args w) (by simp only [List.map_toArray, List.map_cons, List.map_nil, evb, kb, hN, seval]; exact SetTags_c hl2 h50 hv fun k hk => by have := hG k hk; have := hc02.size; omega) ?_
  rintro _ w3 ⟨T, hT, each, ow, cw, rfl, hE, hW, hc3⟩
  have hc03 := hc02.trans hc3 fun _ _ h => h
  (repeat ((with_reducible refine zaj ?_ ?_ ?_); (· simp [evb, pvb, rnb, kb, hN, exV, exOK, Option.getD_some, dyb, sdb] <;> omega); (· kernel_rfl); try simp only [evb, pvb, rnb, kb, hN, seval, exV, exOK, Option.getD_some]))
  refine zab ?_; refine hK _ _ ?_; clear hK K
  have hTl := hT.len
  have hnT : IntKind.u64.wrap ((T.length : Nat) : Int) = ((T.length : Nat) : Int) := by
    have e : IntKind.u64.wrap ((T.length : Nat) : Int) = ((T.length : Nat) : Int) % 18446744073709551616 := by simp [IntKind.wrap, IntKind.bits, IntKind.signed]
    rw [e]; omega
  have hlT : (zam T).length ≤ 100500 := by
    have h1 := encTags_le 2000 (zah T) fun x hx => (hT.each x ((mem_tagSort T x).1 hx)).2
    rw [tagSort_len] at h1
    have h2 : T.length * (2000 + 10) ≤ 50 * (2000 + 10) := Nat.mul_le_mul_right _ (by omega)
    unfold zam; omega
  have hlu : (uvar T.length).length ≤ 5 := uvA_le 4 _
  refine wp_seq_k fun K hK => ?_; refine zac ?_; (iterate 2 ((with_reducible refine zaj ?_ ?_ ?_); (· simp [evb, pvb, rnb, kb, hN, hnT, dyb, sdb] <;> omega); (· kernel_rfl); try simp only [evb, pvb, rnb, kb, hN, seval, hnT]))
  refine zau (fun args w => Try.call8 args w) (by simp only [List.map_toArray, List.map_cons, List.map_nil, evb, kb, hN, seval, hnT]; exact Uvarint_small T.length (by omega)) ?_
  rintro v4 w4 ⟨ho4, hc4⟩
  have hc04 := hc03.trans hc4 fun _ _ h => h
  (iterate 1 ((with_reducible refine zaj ?_ ?_ ?_); (· simp [evb, pvb, rnb, kb, hN, dyb, sdb] <;> omega); (· kernel_rfl); try simp only [evb, pvb, rnb, kb, hN, seval]))
  refine wl_append (c := cw) (e := eB) (base := w3.heap.size) (G := fun g => w2.heap.size ≤ g) (bs := uvar T.length) (bs' := zam T) bT (by simp only [evb, kb, hN, seval]) (by simp only [evb, kb, hN, seval]) ho4 (hW.chg hc4 fun _ _ _ h => h) (by simp only [LIM]; omega) hc4.size fun v5 w5 h5 => ?_
  have hc35 : Chg (fun k => w3.heap.size ≤ k) w3 w5 := (hc4.mono (Y := fun k => w3.heap.size ≤ k) fun _ _ h => h.elim).trans h5.chg fun k _ h => (own_ge ho4 k h).1
  have hc05 : Chg (fun _ => False) w w5 := hc03.trans (chg_own hc35) fun _ _ h => h
  obtain ⟨o5, c5, rfl, _, hb5⟩ := h5.own.bytes
  have hTs : ∀ x ∈ zah T, x.2.length ≤ LIM := fun x hx => by have := (hT.each x ((mem_tagSort T x).1 hx)).2; unfold LIM; omega
  refine zau (fun args w => Try.call7 args w) (by simp only [List.map_toArray, List.map_cons, List.map_nil, evb, kb, hN, seval]; exact implReadTags_c hb5 (by rw [List.length_append]; omega) (rTags_back hT.w) (by rw [tagSort_len]; omega) hTs) ?_
  rintro _ w6 ⟨got, rfl, hGt, hc6⟩
  have hc36 : Chg (fun k => w3.heap.size ≤ k) w3 w6 := hc35.trans hc6 fun _ _ h => h.elim
  have hc06 := hc05.trans hc6 fun _ _ h => h
  (repeat ((with_reducible refine zaj ?_ ?_ ?_); (· simp [evb, pvb, rnb, kb, hN, exV, exOK, Option.getD_some, dyb, sdb] <;> omega); (· kernel_rfl); try simp only [evb, pvb, rnb, kb, hN, seval, exV, exOK, Option.getD_some]))
  refine zab ?_; refine hK _ _ ?_; clear hK K
  have hris := tagSort_rising T hT.nd
  rw [tagSort_id _ hris] at hGt
  have hE6 : TgS w6 (fun g => w2.heap.size ≤ g ∧ g < w3.heap.size) (zah T) each := hE.stay ⟨fun k hk hg => ⟨hc36.block k hk (by omega), hg, hk⟩⟩
  have hlS := tagSort_len T
  obtain ⟨og, cg, rfl, _⟩ : ∃ og cg, got = .slice og (zah T).length cg ∧ (zah T).length ≤ cg := by obtain ⟨o, c, h1, h2, _⟩ := hGt; exact ⟨o, c, h1, h2⟩
  refine wp_seq_k fun K hK => ?_
  refine zac ?_
  (repeat (first | ((with_reducible refine zaj ?_ ?_ ?_); (· simp [evb, pvb, rnb, kb, hN, seval, hlS, cmp2, zas, beq_self_eq_true, dyb, sdb] <;> omega); (· kernel_rfl); try simp only [evb, pvb, rnb, kb, hN, seval, hlS, cmp2, zas, beq_self_eq_true]) | ((with_reducible apply wl_gyesB); (· exact rfl); (· exact rfl); (· simp [evb, pvb, rnb, kb, hN, seval, hlS, cmp2, zas, beq_self_eq_true]; done); try simp only [evb, pvb, rnb, kb, hN, seval, hlS, cmp2, zas, beq_self_eq_true]) | ((with_reducible apply wl_gnoB); (· exact rfl); (· exact rfl); (· simp [evb, pvb, rnb, kb, hN, seval, hlS, cmp2, zas, beq_self_eq_true]; done); try simp only [evb, pvb, rnb, kb, hN, seval, hlS, cmp2, zas, beq_self_eq_true]) | ((with_reducible apply wl_gnoU); (· exact rfl); (· exact rfl); (· simp [evb, pvb, rnb, kb, hN, seval, hlS, cmp2, zas, beq_self_eq_true]; done); try simp only [evb, pvb, rnb, kb, hN, seval, hlS, cmp2, zas, beq_self_eq_true])))
  rw [hlS] at hGt
  refine zau (fun args w => Try.call11 args w) (by simp only [List.map_toArray, List.map_cons, List.map_nil, evb, kb, hN, seval]; exact tagsOf_c hGt (by omega)) ?_
  rintro g1 w7 ⟨hg1, hc7⟩
  (repeat (first | ((with_reducible refine zaj ?_ ?_ ?_); (· simp [evb, pvb, rnb, kb, hN, seval, cmp2, zas, beq_self_eq_true, dyb, sdb] <;> omega); (· kernel_rfl); try simp only [evb, pvb, rnb, kb, hN, seval, cmp2, zas, beq_self_eq_true]) | ((with_reducible apply wl_gyesB); (· exact rfl); (· exact rfl); (· simp [evb, pvb, rnb, kb, hN, seval, cmp2, zas, beq_self_eq_true]; done); try simp only [evb, pvb, rnb, kb, hN, seval, cmp2, zas, beq_self_eq_true]) | ((with_reducible apply wl_gnoB); (· exact rfl); (· exact rfl); (· simp [evb, pvb, rnb, kb, hN, seval, cmp2, zas, beq_self_eq_true]; done); try simp only [evb, pvb, rnb, kb, hN, seval, cmp2, zas, beq_self_eq_true]) | ((with_reducible apply wl_gnoU); (· exact rfl); (· exact rfl); (· simp [evb, pvb, rnb, kb, hN, seval, cmp2, zas, beq_self_eq_true]; done); try simp only [evb, pvb, rnb, kb, hN, seval, cmp2, zas, beq_self_eq_true])))
  refine zau (fun args w => Try.call10 args w) (by simp only [List.map_toArray, List.map_cons, List.map_nil, evb, kb, hN, seval]; exact lastTags_c hg1 hris (by omega)) ?_
  rintro g2 w8 ⟨hg2, hc8⟩
  have hc68 := hc7.trans hc8 fun _ _ h => h
  (repeat (first | ((with_reducible refine zaj ?_ ?_ ?_); (· simp [evb, pvb, rnb, kb, hN, seval, cmp2, zas, beq_self_eq_true, dyb, sdb] <;> omega); (· kernel_rfl); try simp only [evb, pvb, rnb, kb, hN, seval, cmp2, zas, beq_self_eq_true]) | ((with_reducible apply wl_gyesB); (· exact rfl); (· exact rfl); (· simp [evb, pvb, rnb, kb, hN, seval, cmp2, zas, beq_self_eq_true]; done); try simp only [evb, pvb, rnb, kb, hN, seval, cmp2, zas, beq_self_eq_true]) | ((with_reducible apply wl_gnoB); (· exact rfl); (· exact rfl); (· simp [evb, pvb, rnb, kb, hN, seval, cmp2, zas, beq_self_eq_true]; done); try simp only [evb, pvb, rnb, kb, hN, seval, cmp2, zas, beq_self_eq_true]) | ((with_reducible apply wl_gnoU); (· exact rfl); (· exact rfl); (· simp [evb, pvb, rnb, kb, hN, seval, cmp2, zas, beq_self_eq_true]; done); try simp only [evb, pvb, rnb, kb, hN, seval, cmp2, zas, beq_self_eq_true])))
  refine zau (fun args w => Try.call11 args w) (by simp only [List.map_toArray, List.map_cons, List.map_nil, evb, kb, hN, seval]; exact tagsOf_c (hE6.stay (Stay.of hc68 (G := fun g => w2.heap.size ≤ g ∧ g < w3.heap.size) fun _ _ _ h => h)) (by omega)) ?_
  rintro g3 w9 ⟨hg3, hc9⟩
  (repeat (first | ((with_reducible refine zaj ?_ ?_ ?_); (· simp [evb, pvb, rnb, kb, hN, seval, cmp2, zas, beq_self_eq_true, dyb, sdb] <;> omega); (· kernel_rfl); try simp only [evb, pvb, rnb, kb, hN, seval, cmp2, zas, beq_self_eq_true]) | ((with_reducible apply wl_gyesB); (· exact rfl); (· exact rfl); (· simp [evb, pvb, rnb, kb, hN, seval, cmp2, zas, beq_self_eq_true]; done); try simp only [evb, pvb, rnb, kb, hN, seval, cmp2, zas, beq_self_eq_true]) | ((with_reducible apply wl_gnoB); (· exact rfl); (· exact rfl); (· simp [evb, pvb, rnb, kb, hN, seval, cmp2, zas, beq_self_eq_true]; done); try simp only [evb, pvb, rnb, kb, hN, seval, cmp2, zas, beq_self_eq_true]) | ((with_reducible apply wl_gnoU); (· exact rfl); (· exact rfl); (· simp [evb, pvb, rnb, kb, hN, seval, cmp2, zas, beq_self_eq_true]; done); try simp only [evb, pvb, rnb, kb, hN, seval, cmp2, zas, beq_self_eq_true])))
  refine zau (fun args w => Try.call10 args w) (by simp only [List.map_toArray, List.map_cons, List.map_nil, evb, kb, hN, seval]; exact lastTags_c hg3 hris (by omega)) ?_
  rintro g4 w10 ⟨hg4, hc10⟩
  have hc810 := hc9.trans hc10 fun _ _ h => h
  (repeat (first | ((with_reducible refine zaj ?_ ?_ ?_); (· simp [evb, pvb, rnb, kb, hN, seval, cmp2, zas, beq_self_eq_true, dyb, sdb] <;> omega); (· kernel_rfl); try simp only [evb, pvb, rnb, kb, hN, seval, cmp2, zas, beq_self_eq_true]) | ((with_reducible apply wl_gyesB); (· exact rfl); (· exact rfl); (· simp [evb, pvb, rnb, kb, hN, seval, cmp2, zas, beq_self_eq_true]; done); try simp only [evb, pvb, rnb, kb, hN, seval, cmp2, zas, beq_self_eq_true]) | ((with_reducible apply wl_gnoB); (· exact rfl); (· exact rfl); (· simp [evb, pvb, rnb, kb, hN, seval, cmp2, zas, beq_self_eq_true]; done); try simp only [evb, pvb, rnb, kb, hN, seval, cmp2, zas, beq_self_eq_true]) | ((with_reducible apply wl_gnoU); (· exact rfl); (· exact rfl); (· simp [evb, pvb, rnb, kb, hN, seval, cmp2, zas, beq_self_eq_true]; done); try simp only [evb, pvb, rnb, kb, hN, seval, cmp2, zas, beq_self_eq_true])))
  refine zau (fun args w => Try.call9 args w) (by simp only [List.map_toArray, List.map_cons, List.map_nil, evb, kb, hN, seval]; exact sameTags_c (hg2.stay (G' := fun _ => True) ⟨fun k hk hg => ⟨hc810.block k hk (fun h => h), trivial⟩⟩) hg4 (by omega) hTs) ?_
  rintro _ w11 ⟨rfl, hc11⟩
  (repeat (first | ((with_reducible refine zaj ?_ ?_ ?_); (· simp [evb, pvb, rnb, kb, hN, seval, cmp2, zas, beq_self_eq_true, dyb, sdb] <;> omega); (· kernel_rfl); try simp only [evb, pvb, rnb, kb, hN, seval, cmp2, zas, beq_self_eq_true]) | ((with_reducible apply wl_gyesB); (· exact rfl); (· exact rfl); (· simp [evb, pvb, rnb, kb, hN, seval, cmp2, zas, beq_self_eq_true]; done); try simp only [evb, pvb, rnb, kb, hN, seval, cmp2, zas, beq_self_eq_true]) | ((with_reducible apply wl_gnoB); (· exact rfl); (· exact rfl); (· simp [evb, pvb, rnb, kb, hN, seval, cmp2, zas, beq_self_eq_true]; done); try simp only [evb, pvb, rnb, kb, hN, seval, cmp2, zas, beq_self_eq_true]) | ((with_reducible apply wl_gnoU); (· exact rfl); (· exact rfl); (· simp [evb, pvb, rnb, kb, hN, seval, cmp2, zas, beq_self_eq_true]; done); try simp only [evb, pvb, rnb, kb, hN, seval, cmp2, zas, beq_self_eq_true])))
  refine zab ?_; refine hK _ _ ?_; clear hK K; refine wp_ret ⟨by simp [zaa, hD], ?_⟩; simp only [evb, kb, hN, seval]
  exact ⟨by first | rfl | trivial, ((hc06.trans hc68 fun _ _ h => h).trans hc810 fun _ _ h => h).trans hc11 fun _ _ h => h⟩
end Go.Proofs.Ytbbocmkcciemdaa
namespace Go.Proofs.Ytbbocmkcciemdaa
set_option linter.all false
open Go.ChangeShapes Go.WideShapes Go.ChangeAt Go.RowKit
set_option maxRecDepth 100000
set_option maxHeartbeats 1000000
theorem choose_list {α : Type} : ∀ (n : Nat) (P : Nat → α → Prop), (∀ i, i < n → ∃ y, P i y) → ∃ l : List α, l.length = n ∧ ∀ i y, l[i]? = some y → P i y
  | 0, P, _ => ⟨[], rfl, fun i y h => by simp at h⟩
  | n + 1, P, h => by
    obtain ⟨l, h1, h2⟩ := choose_list n P fun i hi => h i (by omega)
    obtain ⟨y, hy⟩ := h n (by omega)
    refine ⟨l ++ [y], by simp [h1], fun i z hz => ?_⟩
    by_cases hi : i < n
    · rw [List.getElem?_append_left (by omega)] at hz; exact h2 i z hz
    · rw [List.getElem?_append_right (by omega), h1] at hz
      have : i = n := by
        have := (List.getElem?_eq_some_iff.1 hz).1
        simp at this; omega
      subst this
      simp at hz; subst hz; exact hy
section
variable {H : Type} {enc : TypeId × Value → H} {w : World} {base : Nat} {spare : Nat → Bool} {held : Bool}
theorem itag_of {fuel : Nat} {cs : List Value} {x : DataW H × List MemPlace} (h : DataW.trod enc Try.prog w base spare held fuel 37 cs = some x) :
    ∃ y : Nat × Bs, TgC w (fun _ => True) y cs := by
  obtain ⟨y0, y1, n, rfl, hl, h0, h1⟩ := trod_struct2 Try.underlying37 h
  have c2 : (Try.prog).cellsOf 37 = 2 := by kernel_rfl
  have c1 : (Try.prog).cellsOf 35 = 1 := by kernel_rfl
  have c1' : (Try.prog).cellsOf 24 = 1 := by kernel_rfl
  rw [c2] at hl
  simp only [c1, c1'] at h0 h1
  obtain ⟨z, e0, e1, hz⟩ := DataW.trod_int Try.underlying35 h0
  obtain ⟨oa, cap, bs, e2, k1, k2, k3⟩ := bytes_of h1
  match cs, hl with
  | [a, b], _ =>
    simp at e0 e2
    subst e0 e2 e1
    simp only [Lit.wf, IntKind.min, IntKind.max, IntKind.signed, IntKind.bits, Bool.and_eq_true, decide_eq_true_eq] at hz
    simp at hz
    refine ⟨(z.toNat, bs), oa, cap, ?_, by show z.toNat < _; omega, k1, k2⟩
    show [_, _] = [Value.int .u32 ((z.toNat : Nat) : Int), _]
    rw [Int.toNat_of_nonneg hz.1]
theorem itags_of {fuel : Nat} {cs : List Value} {x : DataW H × List MemPlace} (h : DataW.trod enc Try.prog w base spare held fuel 22 cs = some x) :
    ∃ (t : zat) (v : Value), cs = [v] ∧ TgS w (fun _ => True) t v := by
  have c2 : (Try.prog).cellsOf 37 = 2 := by kernel_rfl
  rcases Go.Deep.open_slice Try.underlying22 h with ⟨rfl, rfl⟩ | ⟨a, len, cap, m, n, D, Pl, rfl, _, hlc, hmx, hm, rfl, hel⟩
  · exact ⟨[], _, rfl, ⟨none, 0, rfl, Nat.le_refl _, .inl rfl⟩⟩
  · rw [c2] at hel
    have hlm : len ≤ m := by rw [hm]; split <;> omega
    obtain ⟨t, ht1, ht2⟩ := choose_list len (fun i (y : Nat × Bs) => ∃ cs', w.cells? base (a.add (i * 2)) 2 = some cs' ∧ TgC w (fun _ => True) y cs') fun i hi => by
      obtain ⟨cs', e1, e2⟩ := hel i (by omega)
      obtain ⟨y, k1⟩ := itag_of e2
      exact ⟨y, cs', e1, k1⟩
    refine ⟨t, _, rfl, ⟨some a, cap, by rw [ht1], by omega, ?_⟩⟩
    by_cases h0 : len = 0
    · left; exact List.eq_nil_of_length_eq_zero (by omega)
    · obtain ⟨C, hC⟩ : ∃ C : Nat → List Value, ∀ i, i < len → w.cells? base (a.add (i * 2)) 2 = some (C i) := ⟨fun i => (w.cells? base (a.add (i * 2)) 2).getD [], fun i hi => by
        obtain ⟨cs', e1, _⟩ := hel i (by omega)
        dsimp only; rw [e1]; rfl⟩
      obtain ⟨k1, l, T, k2, k3⟩ := row_at hC (by decide) (by omega)
      obtain ⟨ab, ao, asp⟩ := a
      simp only at k1
      subst k1
      refine .inr ⟨ab, ao, l, T, rfl, trivial, k2, TgL.of fun i y hy => ?_⟩
      have hi : i < len := by rw [← ht1]; exact (List.getElem?_eq_some_iff.1 hy).1
      obtain ⟨cs', e1, e2⟩ := ht2 i y hy
      rw [List.drop_drop, k3 i hi]
      rw [hC i hi] at e1
      cases e1
      exact e2
end
theorem below_of {w w' : World} (h : Chg (fun _ => False) w w') : Below w.heap.size w w' := (h.mono fun _ _ h => h.elim : Chg (fun k => w.heap.size ≤ k) w w').below (Nat.le_refl _)
theorem laidOut : laidOutB Try.prog = true := by kernel_rfl
theorem itags_arg {H : Type} {enc : TypeId × Value → H} {W : World} {base : Nat} {v : Value} {d : DataW H} {p : List MemPlace} (hok : Value.okWide Try.prog W .any base 22 v) (h : DataW.Trod enc Try.prog W 0 (fun _ => true) true 22 v d p) :
    ∃ t : zat, TgS W (fun k => k < W.heap.size) t v := by
  obtain ⟨oa, n, cap, rfl⟩ := okWide_slice Try.underlying22 hok
  obtain ⟨fuel, hf⟩ := h
  obtain ⟨t, v', hcs, ht⟩ := itags_of hf
  have e : [Value.slice oa n cap] = [v'] := hcs
  simp only [List.cons.injEq, and_true] at e
  subst e
  exact ⟨t, ht.stay ⟨fun k hk _ => ⟨rfl, hk⟩⟩⟩
theorem itags_same {H : Type} {enc : TypeId × Value → H} {W W' : World} {v : Value} {d : DataW H} {p : List MemPlace} (h : DataW.Trod enc Try.prog W 0 (fun _ => true) true 22 v d p) (hc : Chg (fun _ => False) W W') (hlt : ∀ x ∈ p, x.block < W.heap.size) :
    DataW.Trod enc Try.prog W' 0 (fun b => decide (b < W.heap.size)) true 22 v d p := Below.trod laidOut (by kernel_rfl) (of_decide_eq_true (by kernel_rfl)) h (below_of hc) hlt
end Go.Proofs.Ytbbocmkcciemdaa
