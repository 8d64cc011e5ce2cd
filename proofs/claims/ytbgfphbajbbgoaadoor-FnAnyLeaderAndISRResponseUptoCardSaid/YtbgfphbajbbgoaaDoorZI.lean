import Derived.Test.YtbgfphbajbbgoaaDoorZG
/-
What the proofs of the laws rest on, part ZI.
-/
namespace Go.Proofs.YtbgfphbajbbgoaaDoor
set_option linter.all false
open Go.RowKit
set_option maxRecDepth 10000
set_option maxHeartbeats 2000000
end Go.Proofs.YtbgfphbajbbgoaaDoor
namespace Go.Proofs.YtbgfphbajbbgoaaDoor
set_option linter.all false
open Go.RowKit
set_option maxRecDepth 10000
set_option maxHeartbeats 4000000
theorem App.pre {e : TypeId} {w w1 w2 : World} {base : Nat} {v v' : Value} {bs : Bs} (c : Chg (fun _ => False) w w1) (h : App e w1 base v bs v' w2) : App e w base v bs v' w2 := by
  refine ⟨h.own, (c.mono fun _ _ h => h.elim).trans h.chg fun _ _ h => h, ?_⟩
  rcases h.blk with k | ⟨g, k1, k2⟩
  · exact .inl k
  · exact .inr ⟨g, k1, Nat.le_trans c.size k2⟩
end Go.Proofs.YtbgfphbajbbgoaaDoor
namespace Go.Proofs.YtbgfphbajbbgoaaDoor
set_option linter.all false
open Go.RowKit
set_option maxRecDepth 10000
set_option maxHeartbeats 1000000
mutual
def okF : Fld → Bool
  | .mk _ _ _ _ tag df of sub => decide (of ≠ .list) && decide (tag < 1073741824) && decide (sub.length ≤ 1073741824) && okL sub && (decide (-9223372036854775808 ≤ df) && decide (df ≤ 9223372036854775807))
def okL : List Fld → Bool
  | [] => true
  | f :: r => okF f && okL r
end
theorem okL.mem : ∀ {fs : List Fld}, okL fs = true → ∀ f ∈ fs, okF f = true
  | [], _, f, hf => by cases hf
  | g :: r, h, f, hf => by
    unfold okL at h
    simp only [Bool.and_eq_true] at h
    rcases List.mem_cons.1 hf with rfl | hf
    · exact h.1
    · exact okL.mem h.2 f hf
theorem SchS.later {w0 w1 w2 wn : World} {fs : List Fld} {v : Value} (h : SchS w2 (fun g => w1.heap.size ≤ g) fs v) (hc : Chg (fun _ => False) w2 wn) (hs : w0.heap.size ≤ w1.heap.size) : SchS wn (fun g => w0.heap.size ≤ g) fs v :=
  h.stay ⟨fun k hk hg => ⟨hc.block k hk (fun h => h), Nat.le_trans hs hg⟩⟩
end Go.Proofs.YtbgfphbajbbgoaaDoor
