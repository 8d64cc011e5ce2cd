import Derived.Test.YtbgfphbajbbgoaaDoorZU
import Derived.Laws.IdiomCopy
/-
What the proofs of the laws rest on, part ZG.
-/
namespace Go.Proofs.YtbgfphbajbbgoaaDoor
set_option linter.all false
open Go.RowKit
set_option maxRecDepth 10000
set_option maxHeartbeats 2000000
mutual
def FOK : Fld → Prop
  | .mk _ _ _ _ _ _ _ sub => sub.length ≤ 1073741824 ∧ LOK sub
def LOK : List Fld → Prop
  | [] => True
  | f :: r => f.tag < 1073741824 ∧ FOK f ∧ LOK r
end
mutual
def TROK : Tr → Prop
  | .mk _ b _ l t => tagOK t ∧ b.length ≤ LIM ∧ l.length ≤ LIM ∧ t.length ≤ LIM ∧ TRLOK l
def TRLOK : List Tr → Prop
  | [] => True
  | x :: r => TROK x ∧ TRLOK r
end
theorem LOK.mem : ∀ {fs : List Fld}, LOK fs → ∀ f ∈ fs, FOK f
  | [], _, f, hf => by cases hf
  | g :: r, h, f, hf => by
    unfold LOK at h
    rcases List.mem_cons.1 hf with rfl | hf
    · exact h.2.1
    · exact LOK.mem h.2.2 f hf
theorem TRLOK.mem : ∀ {l : List Tr}, TRLOK l → ∀ x ∈ l, TROK x
  | [], _, f, hf => by cases hf
  | g :: r, h, f, hf => by
    unfold TRLOK at h
    rcases List.mem_cons.1 hf with rfl | hf
    · exact h.1
    · exact TRLOK.mem h.2 f hf
theorem TROK.parts {v : Tr} (h : TROK v) : tagOK v.t ∧ v.b.length ≤ LIM ∧ v.l.length ≤ LIM ∧ v.t.length ≤ LIM ∧ TRLOK v.l := by
  cases v; unfold TROK at h; exact h
theorem TROK.th {v : Tr} (h : TROK v) (h0 : tagOK []) (i : Nat) : TROK (v.th i) := by
  unfold Tr.th
  cases hx : v.l[i]? with
  | none => simp only [Option.getD_none, Tr.zero]; unfold TROK; exact ⟨h0, by simp, by simp, by simp, by unfold TRLOK; trivial⟩
  | some x => exact h.parts.2.2.2.2.mem x (List.mem_of_getElem? hx)
theorem Octs.later {w w1 w2 : World} {v : Value} {l : Bs} (h : Octs w v l w1) (c : Chg (fun _ => False) w1 w2) : Own eB w2 w.heap.size v l := h.1.chg c fun _ _ h => h
end Go.Proofs.YtbgfphbajbbgoaaDoor
namespace Go.Proofs.YtbgfphbajbbgoaaDoor
set_option linter.all false
open Go.RowKit
set_option maxRecDepth 10000
set_option maxHeartbeats 600000
end Go.Proofs.YtbgfphbajbbgoaaDoor
