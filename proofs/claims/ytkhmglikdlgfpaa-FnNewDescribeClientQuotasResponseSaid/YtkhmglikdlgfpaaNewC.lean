import Derived.Test.YtkhmglikdlgfpaaNewB
/-
New messages: what the reference's default is fit for; octets that came of calls.
-/
namespace Go.Proofs.Ytkhmglikdlgfpaa
set_option linter.all false
open Go.RowKit
set_option maxRecDepth 10000

mutual
theorem trok_defF : ∀ {f : Fld}, okF f = true → TROK (sDefF f)
  | .mk k a b nl tg df of sub, h => by
    unfold okF at h
    simp only [Bool.and_eq_true, decide_eq_true_eq] at h
    unfold sDefF dfNode TROK
    refine ⟨tagOK_nil, by simp, ?_, by simp, ?_⟩
    · split
      · rw [sDefL_len]; unfold LIM; omega
      · simp
    · split
      · exact trok_defL h.1.2
      · unfold TRLOK; trivial
theorem trok_defL : ∀ {fs : List Fld}, okL fs = true → TRLOK (sDefL fs)
  | [], _ => by unfold sDefL TRLOK; trivial
  | f :: r, h => by
    unfold okL at h
    simp only [Bool.and_eq_true] at h
    unfold sDefL TRLOK
    exact ⟨trok_defF h.1, trok_defL h.2⟩
end
theorem trok_def {fs : List Fld} (h : okL fs = true) (hl : fs.length ≤ 1073741824) : TROK (sDef fs) := by
  unfold sDef TROK
  exact ⟨tagOK_nil, by simp, by rw [sDefL_len]; unfold LIM; omega, by simp, trok_defL h⟩

theorem Octs.keep {w w1 w2 : World} {v : Value} {l : Bs} (h : Octs w v l w1) (c : Chg (fun _ => False) w1 w2) : Octs w v l w2 := ⟨h.1.chg c fun _ _ h => h, h.2.trans c fun _ _ h => h⟩
theorem Octs.of_app {w w1 : World} {v : Value} {bs : Bs} (h : App eB w w.heap.size (.slice none 0 0) ([] ++ bs) v w1) : Octs w v bs w1 :=
  ⟨h.own, h.chg.mono fun n hn hk => by simp [Value.ownBlock] at hk⟩

/-- The equation of the law, at all versions: by the kernel. -/
def newEq (fs : List Fld) (c : Int) (k : Nat) : Bool := (List.range (k + 1)).all fun v => decide (encPart (decide (c ≤ (v : Int))) v fs ⟨dfltL fs, []⟩ = sPart (decide (0 ≤ c) && decide (c ≤ (v : Int))) v fs (sDef fs)) && decide ((encPart (decide (c ≤ (v : Int))) v fs ⟨dfltL fs, []⟩).length ≤ 1048576)
theorem newEq_out {fs : List Fld} {c : Int} {k : Nat} (h : newEq fs c k = true) {ver : Int} (h0 : 0 ≤ ver) (h1 : ver ≤ k) :
    encPart (decide (c ≤ ver)) ver fs ⟨dfltL fs, []⟩ = sPart (decide (0 ≤ c) && decide (c ≤ ver)) ver fs (sDef fs) ∧ (encPart (decide (c ≤ ver)) ver fs ⟨dfltL fs, []⟩).length ≤ 1048576 := by
  unfold newEq at h
  rw [List.all_eq_true] at h
  have := h ver.toNat (by rw [List.mem_range]; omega)
  rw [Int.toNat_of_nonneg h0] at this
  simpa only [Bool.and_eq_true, decide_eq_true_eq] using this

end Go.Proofs.Ytkhmglikdlgfpaa
