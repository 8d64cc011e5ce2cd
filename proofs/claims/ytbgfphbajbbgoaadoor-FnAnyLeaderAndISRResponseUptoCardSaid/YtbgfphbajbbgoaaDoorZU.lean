import Derived.Test.YtbgfphbajbbgoaaDoorZS
import Derived.Test.YtbgfphbajbbgoaaDoorZA
/-
What the proofs of the laws rest on, part ZU.
-/
namespace Go.Proofs.YtbgfphbajbbgoaaDoor
set_option linter.all false
open Go.RowKit
set_option maxRecDepth 10000
set_option maxHeartbeats 2000000
abbrev tTg : TypeId := 74
theorem TgL.of {w : World} {G : Nat → Prop} : ∀ {l : Tags} {vs : List Value}, (∀ i x, l[i]? = some x → TgC w G x ((vs.drop (i * 2)).take 2)) → TgL w G l vs
  | [], _, _ => trivial
  | x :: r, vs, h => ⟨by simpa using h 0 x rfl, TgL.of fun i y hy => by
      have := h (i + 1) y (by simpa using hy)
      rw [List.drop_drop, show 2 + i * 2 = (i + 1) * 2 by omega]
      exact this⟩
structure UkI (w : World) (base : Nat) (G : Nat → Prop) (acc : Tags) (v : Value) : Prop where
  row : ∃ cs, w.ownsRow base tTg 2 v acc.length cs ∧ TgL w G acc cs
theorem UkI.chg {w w' : World} {base : Nat} {G : Nat → Prop} {acc : Tags} {v : Value} {X : Nat → Prop} (h : UkI w base G acc v) (c : Chg X w w') (hx : ∀ k, base ≤ k → k < w.heap.size → ¬ X k) (hG : ∀ k, G k → k < base) (hb : ∀ k, k < base → ¬ X k) : UkI w' base G acc v := by
  obtain ⟨cs, h1, h2⟩ := h.row
  refine ⟨cs, ⟨h1.1, ?_⟩, h2.stay (Stay.of c fun k hk _ => hb k (hG k hk))⟩
  rcases h1.2 with hn | ⟨g, cap, cur, rfl, hbg, hg, rest⟩
  · exact .inl hn
  · refine .inr ⟨g, cap, cur, rfl, hbg, ?_, rest⟩
    have hlt := (Array.getElem?_eq_some_iff.1 hg).1
    rw [c.block g hlt (hx g hbg hlt)]; exact hg
theorem UkI.some {w : World} {base : Nat} {G : Nat → Prop} {acc : Tags} {v : Value} (h : UkI w base G acc v) (h0 : 0 < acc.length) :
    ∃ g cap C, v = .slice (some ⟨g, 0, none⟩) acc.length cap ∧ base ≤ g ∧ Blk w g C tTg ∧ acc.length * 2 ≤ C.length ∧ TgL w G acc C := by
  obtain ⟨cs, h1, h2⟩ := h.row
  rcases h1.2 with ⟨_, hn⟩ | ⟨g, cap, cur, rfl, hbg, hg, h3, h4, h5, h6⟩
  · omega
  · have hle : acc.length * 2 ≤ cur.size := by omega
    refine ⟨g, cap, cur.toList, rfl, hbg, by unfold Blk; simpa using hg, by simpa using hle, TgL.of fun i x hx => ?_⟩
    have hi := (List.getElem?_eq_some_iff.1 hx).1
    have := (h2.get hx).1
    rw [← h6] at this
    rw [List.drop_take, List.take_take] at this
    rwa [Nat.min_eq_left (by omega)] at this
theorem UkI.len {w : World} {base : Nat} {G : Nat → Prop} {acc : Tags} {v : Value} (h : UkI w base G acc v) : ∃ oa cap, v = .slice oa acc.length cap := by
  obtain ⟨cs, h1, h2⟩ := h.row
  rcases h1.2 with ⟨rfl, hn⟩ | ⟨g, cap, cur, rfl, _⟩
  · exact ⟨none, 0, by rw [hn]⟩
  · exact ⟨_, _, rfl⟩
theorem TgL.key {w : World} {G : Nat → Prop} {l : Tags} {C : List Value} {i : Nat} {x : Nat × Bs} (h : TgL w G l C) (hx : l[i]? = some x) : C[i * 2]? = some (.int .u32 x.1) := by
  obtain ⟨⟨ob, cb, h1, _⟩, _⟩ := h.get hx
  have := congrArg (·[0]?) h1
  simp only [List.getElem?_cons_zero] at this
  rw [List.getElem?_take_of_lt (by omega), List.getElem?_drop] at this
  simpa using this
end Go.Proofs.YtbgfphbajbbgoaaDoor
