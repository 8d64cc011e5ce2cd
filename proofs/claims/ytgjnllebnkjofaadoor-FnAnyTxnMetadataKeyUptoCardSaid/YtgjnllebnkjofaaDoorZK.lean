import Derived.Test.YtgjnllebnkjofaaDoorZA
/-
What the proofs of the laws rest on, part ZK.
-/
namespace Go.Proofs.YtgjnllebnkjofaaDoor
set_option linter.all false
open Go.RowKit Go.Lib
set_option maxRecDepth 10000
theorem i64_id (n : Int) (h : -9223372036854775808 ≤ n ∧ n ≤ 9223372036854775807) : IntKind.i64.wrap n = n := by rw [IntKind.wrap_i64]; omega
end Go.Proofs.YtgjnllebnkjofaaDoor
namespace Go.Proofs.YtgjnllebnkjofaaDoor
set_option linter.all false
open Go.RowKit
set_option maxRecDepth 10000
def LoopQ (b : Nat) (K : Act → World → Prop) (R : Act → World → Prop) : Exit → Act → World → Prop
  | .normal, a, w => K a w
  | .exit id, a, w => id = b ∧ K a w
  | .ret, a, w => R a w
  | _, _, _ => False
theorem wp_range {n b1 b2 r1 r2 u1 u2 u3 u4 ti ti2 : Nat} {y0 y1 y2 : TypeId} {q0 q1 q2 : String} {e0 e1 e2 : Array Edge} {body : Code} {Q : Exit → Act → World → Prop} {a : Act} {w : World}
    (Inv : Nat → Act → World → Prop) (sz : Nat) (hn : n ≤ 4611686018427387904)
    (h1 : get a u1 = .int .i64 n) (h2 : get a u2 = .int .i64 0) (h0 : Inv 0 a w)
    (hsz : ∀ i a w, Inv i a w → a.tmps.size = sz) (hput : ∀ i a w t v, (t = u2 ∨ t = u3 ∨ t = u4) → Inv i a w → Inv i (a.put (some t) v) w)
    (hlt : u1 < sz ∧ u2 < sz ∧ u3 < sz ∧ u4 < sz ∧ u2 ≠ u1 ∧ u3 ≠ u1 ∧ u3 ≠ u2 ∧ u4 ≠ u1 ∧ u4 ≠ u2)
    (hbody : ∀ i a w, i < n → Inv i a w → get a u1 = .int .i64 n → get a u2 = .int .i64 i → body.wp Tryd.prog (LoopQ b2 (fun a' w' => Inv (i + 1) a' w' ∧ get a' u1 = .int .i64 n ∧ get a' u2 = .int .i64 i) (Q .ret)) a w)
    (hend : ∀ a w, Inv n a w → Q .normal a w) :
    (Code.block b1 (.loop (.seq (.region r1 #[⟨some u3, .binOp .lss ti (.tmp u2) (.tmp u1) ti2, y0, q0, e0, none⟩] false) (.seq (.cond (.tmp u3) .skip (.exit b1)) (.seq (.block b2 body)
      (.region r2 #[⟨some u4, .binOp .add ti (.tmp u2) (.const (.int .i64 1)) ti2, y1, q1, e1, none⟩, ⟨some u2, .move (.tmp u4), y2, q2, e2, none⟩] false)))))).wp Tryd.prog Q a w := by
  obtain ⟨l1, l2, l3, l4, n1, n2, n3, n4, n5⟩ := hlt
  refine wp_block ?_
  refine wp_loop (fun a' w' => ∃ i, i ≤ n ∧ Inv i a' w' ∧ get a' u1 = .int .i64 n ∧ get a' u2 = .int .i64 i) (fun a' _ => n - (intOf (get a' u2)).toNat) ?_ ?_
  · exact ⟨0, Nat.zero_le _, h0, h1, by rw [h2]; rfl⟩
  clear h0 h1 h2
  rintro a1 w1 ⟨i, hi, hI, g1, g2⟩
  have hN := hsz _ _ _ hI
  refine wp_seq_k fun K hK => ?_
  refine zag ?_
  refine wl_lss (by rw [zah, zah, g1, g2]; rfl) ?_
  rw [zah, zah, g1, g2]
  simp only [cmp2]
  refine zad (hK _ _ ?_)
  clear hK K
  refine wp_seq_k fun K hK => ?_
  have hI3 := fun v => hput i a1 w1 u3 v (.inr (.inl rfl)) hI
  by_cases hlt : i < n
  · have e1 : decide ((i : Int) < (n : Int)) = true := decide_eq_true (by omega)
    rw [e1]
    refine wp_cond_true (by rw [zah, zae (by omega)]) ?_
    refine wp_skip (hK _ _ ?_)
    clear hK K
    refine wp_seq_k fun K hK => ?_
    refine wp_block ?_
    refine wp_mono (hbody i _ w1 hlt (hI3 _) ((zac n2).trans g1) ((zac n3).trans g2)) ?_
    have next : ∀ a2 w2, (Inv (i + 1) a2 w2 ∧ get a2 u1 = .int .i64 n ∧ get a2 u2 = .int .i64 i) → K a2 w2 := by
      rintro a2 w2 ⟨k1, k2, k3⟩
      have hN2 := hsz _ _ _ k1
      refine hK _ _ ?_
      refine zag ?_
      refine wl_add (by rw [zah, zaj, k3]; rfl) ?_
      rw [zah, zaj, k3]
      simp only [add2]
      rw [i64_id ((i : Int) + 1) (by omega)]
      refine zaQ ?_
      rw [zah, zae (by omega)]
      refine zad ⟨⟨i + 1, hlt, hput _ _ _ _ _ (.inl rfl) (hput _ _ _ _ _ (.inr (.inr rfl)) k1), ?_, ?_⟩, ?_⟩
      · rw [zac n1, zac n4]; exact k2
      · rw [zae (by rw [zai]; omega)]; rfl
      · rw [zae (by rw [zai]; omega), g2]
        simp only [intOf]; omega
    intro e a2 w2 hq
    cases e with
    | normal => exact next _ _ hq
    | exit id =>
      obtain ⟨rfl, hq⟩ := hq
      simp only [Exit.inBlock, if_pos]
      exact next _ _ hq
    | ret => exact hq
    | _ => exact hq.elim
  · have e1 : decide ((i : Int) < (n : Int)) = false := decide_eq_false (by omega)
    rw [e1]
    have ei : i = n := by omega
    subst ei
    refine wp_cond_false (by rw [zah, zae (by omega)]) ?_
    refine wp_exit ?_
    simp only [Exit.then, Exit.inBlock, if_pos]
    exact hend _ _ (hI3 _)
end Go.Proofs.YtgjnllebnkjofaaDoor
namespace Go.Proofs.YtgjnllebnkjofaaDoor
set_option linter.all false
open Go.RowKit Go.Lib
set_option maxRecDepth 10000
end Go.Proofs.YtgjnllebnkjofaaDoor
